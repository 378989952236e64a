/-
  WALKS of seat b6601998aM: hexValue, decodeCanonical.
-/
import Derived.Test.Qxb6601998aModsWalkC
namespace Go.Proofs.Qxb6601998aMods.Kp
open Go.RowKit
set_option linter.unusedVariables false

theorem drop_cons {T Y : List Int} {k : Nat} {x : Int} (h : T.drop k = x :: Y) : k < T.length ∧ Bt T k = x ∧ T.drop (k + 1) = Y := by
  have hk : k < T.length := by
    rcases Nat.lt_or_ge k T.length with h' | h'
    · exact h'
    · rw [List.drop_eq_nil_of_le h'] at h; cases h
  rw [bt_drop hk] at h
  simp only [List.cons.injEq] at h
  exact ⟨hk, h.1, h.2⟩

/-- The escape of d stands at k. -/
def EscAt (T : List Int) (k : Nat) (d : Int) : Prop := k + 6 ≤ T.length ∧ Bt T k = 92 ∧ Bt T (k + 1) = 117 ∧ Bt T (k + 2) = 48 ∧ Bt T (k + 3) = 48 ∧ Bt T (k + 4) = hx (d / 16) ∧ Bt T (k + 5) = hx (d % 16)
theorem esc_at {T Y : List Int} {k : Nat} {d : Int} (h : T.drop k = ue d ++ Y) : EscAt T k d ∧ T.drop (k + 6) = Y := by
  obtain ⟨a1, a2, a3⟩ := drop_cons (show T.drop k = 92 :: ([117, 48, 48, hx (d / 16), hx (d % 16)] ++ Y) from h)
  obtain ⟨b1, b2, b3⟩ := drop_cons (show T.drop (k + 1) = 117 :: ([48, 48, hx (d / 16), hx (d % 16)] ++ Y) from a3)
  obtain ⟨c1, c2, c3⟩ := drop_cons (show T.drop (k + 2) = 48 :: ([48, hx (d / 16), hx (d % 16)] ++ Y) from b3)
  obtain ⟨d1, d2, d3⟩ := drop_cons (show T.drop (k + 3) = 48 :: ([hx (d / 16), hx (d % 16)] ++ Y) from c3)
  obtain ⟨e1, e2, e3⟩ := drop_cons (show T.drop (k + 4) = hx (d / 16) :: ([hx (d % 16)] ++ Y) from d3)
  obtain ⟨f1, f2, f3⟩ := drop_cons (show T.drop (k + 5) = hx (d % 16) :: ([] ++ Y) from e3)
  exact ⟨⟨by omega, a2, b2, c2, d2, e2, f2⟩, f3⟩

theorem dec_cases {T r : List Int} {k : Nat} (hk : k < T.length) (h : T.drop k = qt r) :
    (∃ d r', r = 194 :: d :: r' ∧ Rg d ∧ EscAt T k d ∧ T.drop (k + 6) = qt r') ∨
    (∃ c r', r = c :: r' ∧ (c = 34 ∨ c = 92) ∧ k + 1 < T.length ∧ Bt T k = 92 ∧ Bt T (k + 1) = c ∧ T.drop (k + 2) = qt r') ∨
    (∃ c r', r = c :: r' ∧ (c < 32 ∨ c = 127) ∧ EscAt T k c ∧ T.drop (k + 6) = qt r') ∨
    (∃ c r', r = c :: r' ∧ c ≠ 34 ∧ c ≠ 92 ∧ ¬ c < 32 ∧ c ≠ 127 ∧ Bt T k = c ∧ T.drop (k + 1) = qt r' ∧ (c = 194 → k + 1 < T.length → ¬ Rg (Bt T (k + 1)))) := by
  cases r with
  | nil => rw [bt_drop hk] at h; simp [qt] at h
  | cons c r =>
    rcases qt_cases c r with ⟨d, r', rfl, rfl, hd, e⟩ | ⟨hn, e⟩
    · rw [e] at h
      obtain ⟨h1, h2⟩ := esc_at h
      exact .inl ⟨d, r', rfl, hd, h1, h2⟩
    · rw [e] at h
      by_cases h1 : c = 34 ∨ c = 92
      · rw [one_esc h1] at h
        obtain ⟨a1, a2, a3⟩ := drop_cons (show T.drop k = 92 :: ([c] ++ qt r) from h)
        obtain ⟨b1, b2, b3⟩ := drop_cons (show T.drop (k + 1) = c :: ([] ++ qt r) from a3)
        exact .inr (.inl ⟨c, r, rfl, h1, b1, a2, b2, b3⟩)
      · by_cases h2 : c < 32 ∨ c = 127
        · rw [one_ctl h2] at h
          obtain ⟨h3, h4⟩ := esc_at h
          exact .inr (.inr (.inl ⟨c, r, rfl, h2, h3, h4⟩))
        · rw [one_raw (fun e => h1 (.inl e)) (fun e => h1 (.inr e)) (fun e => h2 (.inl e)) (fun e => h2 (.inr e))] at h
          obtain ⟨a1, a2, a3⟩ := drop_cons (show T.drop k = c :: ([] ++ qt r) from h)
          refine .inr (.inr (.inr ⟨c, r, rfl, fun e => h1 (.inl e), fun e => h1 (.inr e), fun e => h2 (.inl e), fun e => h2 (.inr e), a2, a3, fun hc hk1 hR => ?_⟩))
          have hh : (qt r).head? = some (Bt T (k + 1)) := by rw [← show T.drop (k + 1) = qt r from a3, bt_drop hk1]; rfl
          exact hn hc _ (qt_head hh hR) hR

theorem or_fin : ∀ m : Fin 256, bits BinOp.or IntKind.u8 ((m.val : Int) / 16 * 16) ((m.val : Int) % 16) = (m.val : Int) := by decide +kernel
theorem or_hex {d : Int} (h : 0 ≤ d ∧ d ≤ 255) : bits BinOp.or IntKind.u8 (d / 16 * 16) (d % 16) = d := by
  have := or_fin ⟨d.toNat, by omega⟩
  rwa [show ((d.toNat : Nat) : Int) = d from by omega] at this

/-- hexValue, at a hexadecimal digit. -/
theorem hexval26 (v : Int) (w : World) (h0 : 0 ≤ v) (h1 : v < 16) : Calls Trym.prog 26 #[.int .u8 (hx v)] w fun e w' => e = .returned (.tuple #[.int .u8 v, .bool true]) ∧ w = w' := by
  by_cases h : v < 10
  · obtain ⟨c, hc⟩ : ∃ c, c = 48 + v := ⟨_, rfl⟩
    have e : hx v = c := by simp [hx, h, hc]
    rw [e]
    have b1 : 48 ≤ c := by omega
    have b2 : c ≤ 57 := by omega
    have Hv : Hid (c - 48 = v) := by show c - 48 = v; omega
    clear e hc
    go_enter Trym.func26, Trym.ntmps26
    go_wp2
    go_ret2
    exact ⟨by rw [← Hv.out]; rfl, rfl⟩
  · obtain ⟨c, hc⟩ : ∃ c, c = 87 + v := ⟨_, rfl⟩
    have e : hx v = c := by simp [hx, h, hc]
    rw [e]
    have b1 : 97 ≤ c := by omega
    have b2 : c ≤ 102 := by omega
    have b3 : 48 ≤ c := by omega
    have b4 : decide (c ≤ 57) = false := decide_eq_false (by omega)
    have Hv : Hid (c - 97 + 10 = v) := by show c - 97 + 10 = v; omega
    clear e hc
    go_enter Trym.func26, Trym.ntmps26
    go_wp2
    go_ret2
    exact ⟨by rw [← Hv.out]; rfl, rfl⟩

set_option maxRecDepth 100000 in
set_option maxHeartbeats 4000000 in
/-- decodeCanonical, on what quoting wrote. -/
theorem dec19 (b off n cap : Nat) (S : List Int) (w : World) (hS : Byt S) (hn : n ≤ 1099511627776) (hv : View w (some ⟨b, off, none⟩) n (qt S)) :
    Calls Trym.prog 19 #[.slice (some ⟨b, off, none⟩) n cap] w fun e w' => ∃ v, e = .returned (.tuple #[v, .bool true]) ∧ Own w' w.heap.size v S ∧ Below w.heap.size w w' := by
  obtain ⟨i5, hi, hz0, hz1, hz2⟩ := info_parts info5
  have hl := hv.1
  generalize hT : qt S = T at *
  have HC : Hid (∀ wr, Below w.heap.size w wr → ∀ i, i < n → wr.cell? ⟨b, off + i, none⟩ = some (.int .u8 (Bt T i))) := fun wr h i hi => by
    obtain ⟨b', off', e, hc⟩ := (hv.below h).cells (by omega)
    simp only [Option.some.injEq, Addr.mk.injEq, and_true] at e
    obtain ⟨rfl, rfl⟩ := e
    exact hc i hi
  have HS : Hid (Byt S) := hS
  have HT0 : Hid (([] : List Int) ++ S = S ∧ T.drop 0 = qt S) := ⟨by simp, by simp [hT]⟩
  have hSn : S.length ≤ n := by have := (qt_len _ S (Nat.le_refl _)).1; rw [hT] at this; omega
  clear hT hv hS
  go_enter Trym.func19, Trym.ntmps19
  go_wp2_with (at_make; refine wpList_make_own _ rfl _ _ 34 rfl w.heap.size 5 i5 (.int .u8 0) 1 Trym.underlying34 hi hz0 hz1 _ _ _ n rfl rfl (by omega) (by rw [hz2]; omega) (by unfold maxLen; omega) (by omega) ?_)
  intro w1 hown1 hgrow1
  have ho1 : Hid (Own w1 w.heap.size (.slice (some ⟨w.heap.size, 0, none⟩) 0 n) []) := ⟨by simpa [ints] using hown1, fun x hx => by cases hx⟩
  have hb1 : Below w.heap.size w w1 := (Below.refl _ _).grown hgrow1 (Nat.le_refl _) (by simp)
  clear hown1 hgrow1
  go_wp2_with fail
  go_loopw [4, 5] (fun v x wr => ∃ (k : Nat) (r O : List Int), k ≤ n ∧ x = .int .i64 k ∧ Own wr w.heap.size v O ∧ Hid (O ++ r = S ∧ T.drop k = qt r) ∧ Below w.heap.size w wr) (fun _ x _ => n - (intOf x).toNat)
  case atStart => exact ⟨0, S, [], Nat.zero_le _, rfl, ho1.out, HT0, hb1⟩
  case round =>
    clear ho1 hb1 HT0
    obtain ⟨k, r, O, hk, rfl, hown, hI, hbel⟩ := hrel
    have hOl := pre_len hI.out.1
    have hsz := hbel.size
    by_cases hlt : k < n
    case neg =>
      have hfin : Hid (O = S) := by
        have h1 := hI.out
        rw [List.drop_eq_nil_of_le (by omega)] at h1
        have h2 : r = [] := by
          cases r with
          | nil => rfl
          | cons c r => have := (qt_len _ (c :: r) (Nat.le_refl _)).1; rw [← h1.2] at this; simp at this
        rw [h2] at h1
        simpa [Hid] using h1.1
      clear hI
      go_wp2_with fail
      go_ret2
      exact ⟨_, rfl, hown.cast hfin.out, hbel⟩
    have hlt' : (k : Int) < (n : Int) := by omega
    have g0 := HC.out wr hbel k hlt
    have hSb : ∀ x, x ∈ r → 0 ≤ x ∧ x ≤ 255 := fun x hx => HS.out x (by rw [← hI.out.1]; simp [hx])
    rcases dec_cases (by omega) hI.out.2 with ⟨d, r', rfl, hR, ⟨hk6, t0, t1, t2, t3, t4, t5⟩, hD⟩ | ⟨c, r', rfl, hc, hk1, t0, t1, hD⟩ | ⟨c, r', rfl, hc, ⟨hk6, t0, t1, t2, t3, t4, t5⟩, hD⟩ | ⟨c, r', rfl, h34, h92, h32, h127, t0, hD, hnx⟩
    · have hI' : Hid ((O ++ [194, d]) ++ r' = S ∧ T.drop (k + 6) = qt r') := ⟨by rw [← hI.out.1]; simp, hD⟩
      have hdb := hSb d (by simp)
      unfold Rg at hR
      rw [t0] at g0
      have a1 : 0 ≤ d / 16 := by omega
      have a2 : d / 16 < 16 := by omega
      have a3 : 0 ≤ d % 16 := by omega
      have a4 : d % 16 < 16 := by omega
      have p1 : (k : Int) + 1 < (n : Int) := by omega
      have p2 : (k : Int) + 2 < (n : Int) := by omega
      have p3 : (k : Int) + 3 < (n : Int) := by omega
      have p4 : (k : Int) + 4 < (n : Int) := by omega
      have p5 : (k : Int) + 5 < (n : Int) := by omega
      have p6 : ¬ (n : Int) < (k : Int) + 6 := by omega
      have p6d : decide ((n : Int) < (k : Int) + 6) = false := decide_eq_false p6
      have p1d : ¬ (n : Int) ≤ (k : Int) + 1 := by omega
      have g1 : wr.cell? ⟨b, off + (k + 1), none⟩ = some (.int .u8 117) := by rw [HC.out wr hbel _ (by omega), t1]
      have g2 : wr.cell? ⟨b, off + (k + 2), none⟩ = some (.int .u8 48) := by rw [HC.out wr hbel _ (by omega), t2]
      have g3 : wr.cell? ⟨b, off + (k + 3), none⟩ = some (.int .u8 48) := by rw [HC.out wr hbel _ (by omega), t3]
      have g4 : wr.cell? ⟨b, off + (k + 4), none⟩ = some (.int .u8 (hx (d / 16))) := by rw [HC.out wr hbel _ (by omega), t4]
      have g5 : wr.cell? ⟨b, off + (k + 5), none⟩ = some (.int .u8 (hx (d % 16))) := by rw [HC.out wr hbel _ (by omega), t5]
      have hor := or_hex (d := d) (by omega)
      clear t0 t1 t2 t3 t4 t5
      clear hI hD hSb
      have n34 : ¬ d < 32 := by omega
      have n32d : decide (d < 32) = false := decide_eq_false n34
      have n127 : (d == 127) = false := ne_beq (by omega)
      go_wp2_with fail
      refine (hexval26 (d / 16) _ a1 a2).mono ?_
      rintro e w' ⟨rfl, rfl⟩
      go_wp2_with fail
      refine (hexval26 (d % 16) _ a3 a4).mono ?_
      rintro e w' ⟨rfl, rfl⟩
      go_wp2_with (at_builtin; refine wpList_pushL _ rfl (.tmp 117) (.tmp 119) 34 rfl w.heap.size i5 Trym.underlying34 hi hz0 hz1 hz2 _ O rfl hown _ [194, d] 2 rfl rfl (by intro x hx; simp at hx; omega) rfl (by omega) (by omega) ?_; intro v' w' ho' hb')
      go_roundw
      case rel => exact ⟨k + 6, r', _, by omega, by go_num, ho', hI', hbel.trans (hb' _ (Nat.le_refl _))⟩
      case measure => simp [intOf]; omega
    · have hI' : Hid ((O ++ [c]) ++ r' = S ∧ T.drop (k + 2) = qt r') := ⟨by rw [← hI.out.1]; simp, hD⟩
      have hk1' : ¬ (n : Int) ≤ (k : Int) + 1 := by omega
      have hk1'' : (k : Int) + 1 < (n : Int) := by omega
      have g1 : wr.cell? ⟨b, off + (k + 1), none⟩ = some (.int .u8 c) := by rw [HC.out wr hbel _ (by omega), t1]
      rw [t0] at g0
      clear t0 t1 hI hD hSb
      rcases hc with rfl | rfl
      all_goals
        go_wp2_with (at_builtin; refine wpList_pushL _ rfl (.tmp 42) (.tmp 44) 34 rfl w.heap.size i5 Trym.underlying34 hi hz0 hz1 hz2 _ O rfl hown _ [_] 1 rfl rfl (by intro x hx; simp at hx; omega) rfl (by omega) (by omega) ?_; intro v' w' ho' hb')
        go_roundw
        case rel => exact ⟨k + 2, r', _, by omega, by go_num, ho', hI', hbel.trans (hb' _ (Nat.le_refl _))⟩
        case measure => simp [intOf]; omega
    · have hI' : Hid ((O ++ [c]) ++ r' = S ∧ T.drop (k + 6) = qt r') := ⟨by rw [← hI.out.1]; simp, hD⟩
      have hdb := hSb c (by simp)
      rw [t0] at g0
      have a1 : 0 ≤ c / 16 := by omega
      have a2 : c / 16 < 16 := by omega
      have a3 : 0 ≤ c % 16 := by omega
      have a4 : c % 16 < 16 := by omega
      have p1 : (k : Int) + 1 < (n : Int) := by omega
      have p2 : (k : Int) + 2 < (n : Int) := by omega
      have p3 : (k : Int) + 3 < (n : Int) := by omega
      have p4 : (k : Int) + 4 < (n : Int) := by omega
      have p5 : (k : Int) + 5 < (n : Int) := by omega
      have p6 : ¬ (n : Int) < (k : Int) + 6 := by omega
      have p6d : decide ((n : Int) < (k : Int) + 6) = false := decide_eq_false p6
      have p1d : ¬ (n : Int) ≤ (k : Int) + 1 := by omega
      have g1 : wr.cell? ⟨b, off + (k + 1), none⟩ = some (.int .u8 117) := by rw [HC.out wr hbel _ (by omega), t1]
      have g2 : wr.cell? ⟨b, off + (k + 2), none⟩ = some (.int .u8 48) := by rw [HC.out wr hbel _ (by omega), t2]
      have g3 : wr.cell? ⟨b, off + (k + 3), none⟩ = some (.int .u8 48) := by rw [HC.out wr hbel _ (by omega), t3]
      have g4 : wr.cell? ⟨b, off + (k + 4), none⟩ = some (.int .u8 (hx (c / 16))) := by rw [HC.out wr hbel _ (by omega), t4]
      have g5 : wr.cell? ⟨b, off + (k + 5), none⟩ = some (.int .u8 (hx (c % 16))) := by rw [HC.out wr hbel _ (by omega), t5]
      have hor := or_hex (d := c) (by omega)
      clear t0 t1 t2 t3 t4 t5
      clear hI hD hSb
      have hor2 : c < 32 ∨ (¬ c < 32 ∧ decide (c < 32) = false ∧ (c == 127) = true) := by
        by_cases e : c < 32
        · exact .inl e
        · exact .inr ⟨e, decide_eq_false e, by simpa using hc.resolve_left e⟩
      clear hc
      rcases hor2 with e1 | ⟨e1, e2, e3⟩
      all_goals
        go_wp2_with fail
        refine (hexval26 (c / 16) _ a1 a2).mono ?_
        rintro e w' ⟨rfl, rfl⟩
        go_wp2_with fail
        refine (hexval26 (c % 16) _ a3 a4).mono ?_
        rintro e w' ⟨rfl, rfl⟩
        go_wp2_with (at_builtin; refine wpList_pushL _ rfl (.tmp 107) (.tmp 109) 34 rfl w.heap.size i5 Trym.underlying34 hi hz0 hz1 hz2 _ O rfl hown _ [c] 1 rfl rfl (by intro x hx; simp at hx; omega) rfl (by omega) (by omega) ?_; intro v' w' ho' hb')
        go_roundw
        case rel => exact ⟨k + 6, r', _, by omega, by go_num, ho', hI', hbel.trans (hb' _ (Nat.le_refl _))⟩
        case measure => simp [intOf]; omega
    · have hI' : Hid ((O ++ [c]) ++ r' = S ∧ T.drop (k + 1) = qt r') := ⟨by rw [← hI.out.1]; simp, hD⟩
      have hdb := hSb c (by simp)
      have hnx' : Hid (c = 194 → k + 1 < n → ¬ Rg (Bt T (k + 1))) := fun a b => hnx a (by omega)
      rw [t0] at g0
      have x34 := ne_beq h34
      have x92 := ne_beq h92
      have x32 : decide (c < 32) = false := decide_eq_false h32
      have x127 := ne_beq h127
      clear t0 hI hD hSb hnx
      by_cases h194 : c = 194
      · have x194 : (c == 194) = true := by simpa using h194
        by_cases hk1 : k + 1 < n
        · have hk1' : (k : Int) + 1 < (n : Int) := by omega
          have g1 := HC.out wr hbel (k + 1) hk1
          have hnr := hnx'.out h194 hk1
          unfold Rg at hnr
          clear h194 h34 h92 h32 h127 hnx'
          generalize Bt T (k + 1) = y at *
          by_cases hd : 128 ≤ y
          · have hd2 : decide (y < 160) = false := decide_eq_false (by omega)
            go_wp2_with (at_builtin; refine wpList_pushL _ rfl (.tmp 158) (.tmp 160) 34 rfl w.heap.size i5 Trym.underlying34 hi hz0 hz1 hz2 _ O rfl hown _ [c] 1 rfl rfl (by intro x hx; simp at hx; omega) rfl (by omega) (by omega) ?_; intro v' w' ho' hb')
            go_roundw
            case rel => exact ⟨k + 1, r', _, by omega, by go_num, ho', hI', hbel.trans (hb' _ (Nat.le_refl _))⟩
            case measure => simp [intOf]; omega
          · have hd2 : decide (128 ≤ y) = false := decide_eq_false hd
            go_wp2_with (at_builtin; refine wpList_pushL _ rfl (.tmp 158) (.tmp 160) 34 rfl w.heap.size i5 Trym.underlying34 hi hz0 hz1 hz2 _ O rfl hown _ [c] 1 rfl rfl (by intro x hx; simp at hx; omega) rfl (by omega) (by omega) ?_; intro v' w' ho' hb')
            go_roundw
            case rel => exact ⟨k + 1, r', _, by omega, by go_num, ho', hI', hbel.trans (hb' _ (Nat.le_refl _))⟩
            case measure => simp [intOf]; omega
        · have hk2 : decide ((k : Int) + 1 < (n : Int)) = false := decide_eq_false (by omega)
          clear h194 h34 h92 h32 h127 hnx'
          go_wp2_with (at_builtin; refine wpList_pushL _ rfl (.tmp 158) (.tmp 160) 34 rfl w.heap.size i5 Trym.underlying34 hi hz0 hz1 hz2 _ O rfl hown _ [c] 1 rfl rfl (by intro x hx; simp at hx; omega) rfl (by omega) (by omega) ?_; intro v' w' ho' hb')
          go_roundw
          case rel => exact ⟨k + 1, r', _, by omega, by go_num, ho', hI', hbel.trans (hb' _ (Nat.le_refl _))⟩
          case measure => simp [intOf]; omega
      · have x194 : (c == 194) = false := ne_beq h194
        clear h194 h34 h92 h32 h127 hnx'
        go_wp2_with (at_builtin; refine wpList_pushL _ rfl (.tmp 158) (.tmp 160) 34 rfl w.heap.size i5 Trym.underlying34 hi hz0 hz1 hz2 _ O rfl hown _ [c] 1 rfl rfl (by intro x hx; simp at hx; omega) rfl (by omega) (by omega) ?_; intro v' w' ho' hb')
        go_roundw
        case rel => exact ⟨k + 1, r', _, by omega, by go_num, ho', hI', hbel.trans (hb' _ (Nat.le_refl _))⟩
        case measure => simp [intOf]; omega

end Go.Proofs.Qxb6601998aMods.Kp
