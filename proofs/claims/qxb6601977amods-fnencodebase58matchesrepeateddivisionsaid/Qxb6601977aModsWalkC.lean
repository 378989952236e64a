/-
  WALKS of seat b6601977aM: ZZencodeBase58, stripZeroBytes, cmpBigEndian, cmpDigitsText; the law FnEncodeBase58KeepsOrder.
-/
import Derived.Test.Qxb6601977aModsWalkB
namespace Go.Proofs.Qxb6601977aMods.Kp
open Go.RowKit
set_option linter.unusedVariables false

theorem dr1 (w : World) (a b : Nat) : ∃ q, (w.drewN a).drewN b = w.drewN q := ⟨a + b, by simp⟩
theorem dr2 (w : World) (a b c : Nat) : ∃ q, ((w.drewN a).drewN b).drewN c = w.drewN q := ⟨a + b + c, by simp [Nat.add_assoc]⟩

set_option maxHeartbeats 400000 in
theorem zz11 (ao : Option Addr) (n cap : Nat) (lb : List Int) (w : World) (hv : View w ao n lb) (hn : n ≤ 4096) :
    Calls Trym.prog 11 #[.slice ao n cap] w fun e w' => ∃ s, e = .returned (.string s) ∧ sl s = (enc [] lb).reverse.map al ∧ Below w.heap.size w w' := by
  go_enter Trym.func11, Trym.ntmps11
  go_wp2_with fail
  refine (enc27 ao n cap lb _ (by exact hv) hn).mono ?_
  rintro e w1 ⟨s, rfl, hs, hb⟩
  have HS : Hid (sl s = (enc [] lb).reverse.map al) := hs
  clear hs hv
  go_wp2
  go_ret
  exact ⟨s, rfl, HS.out, hb⟩

set_option maxHeartbeats 400000 in
/-- stripZeroBytes. -/
theorem strip22 (ao : Option Addr) (n cap : Nat) (l : List Int) (w : World) (hv : View w ao n l) (hn : n ≤ 1099511627776) (hcap : n ≤ cap) (hcm : cap ≤ maxLen) :
    Calls Trym.prog 22 #[.slice ao n cap] w fun e w' => w = w' ∧ ∃ ao' n' cap', e = .returned (.slice ao' n' cap') ∧ View w ao' n' (strip l) ∧ n' ≤ cap' ∧ n' ≤ n ∧ cap' ≤ maxLen := by
  have hl := hv.1
  by_cases h0 : n = 0
  · subst h0
    obtain rfl : l = [] := List.eq_nil_of_length_eq_zero hl
    have hd : decide ((0 : Int) < 0) = false := by decide
    go_enter Trym.func22, Trym.ntmps22
    go_wp2
    refine wp_loop_rounds 1 ?_
    rw [rounds_succ]
    go_wp2
    all_goals
      go_ret
      exact ⟨rfl, _, _, _, rfl, ⟨rfl, fun x hx => (by cases hx), fun i hi => by omega⟩, by omega, by omega, by omega⟩
  · obtain ⟨b, off, rfl, hc⟩ := hv.cells (by omega)
    have HV : Hid (View w (some ⟨b, off, none⟩) n l) := hv
    clear hv h0
    go_enter Trym.func22, Trym.ntmps22
    go_wp2
    go_loop [3] (fun x => ∃ k : Nat, k ≤ n ∧ x = .int .i64 k ∧ Hid (∀ i, i < k → Bt l i = 0)) (fun x => n - (intOf x).toNat)
    case atStart => exact ⟨0, Nat.zero_le _, rfl, fun i hi => by omega⟩
    case round =>
      obtain ⟨k, hk, rfl, hz⟩ := hrel
      by_cases hlt : k < n
      · have g1 := hc k hlt
        have hlt' : (k : Int) < (n : Int) := by omega
        by_cases hzero : Bt l k = 0
        · have hz' : Hid (∀ i, i < k + 1 → Bt l i = 0) := fun i hi => by
            by_cases e : i = k
            · subst e; exact hzero
            · exact hz.out i (by omega)
          have e1 : (Bt l k == 0) = true := by simpa using hzero
          clear hz hc hzero
          go_wp2
          go_round
          case rel => exact ⟨k + 1, by omega, by go_num, hz'⟩
          case measure => simp [intOf]; omega
        · have e1 := ne_beq hzero
          have hst : Hid (strip l = l.drop k) := strip_drop hz.out (by omega) (fun _ => hzero)
          have hck : ¬ cap = k := by omega
          clear hz hc hzero
          go_wp2
          go_ret
          refine ⟨rfl, _, _, _, rfl, ?_, by omega, by omega, by omega⟩
          have := HV.out.part k n (by omega) (by omega)
          rw [hst.out]
          rw [List.take_of_length_le (by simp; omega)] at this
          exact this
      · obtain rfl : k = n := by omega
        have hst : Hid (strip l = []) := by
          have := strip_drop hz.out (by omega) (fun h => by omega)
          rw [List.drop_eq_nil_of_le (by omega)] at this
          exact this
        have hd : decide ((k : Int) < (k : Int)) = false := decide_eq_false (by omega)
        clear hz hc
        by_cases hck : cap = k
        · go_wp2
          all_goals
            go_ret
            exact ⟨rfl, _, _, _, rfl, ⟨by rw [hst.out]; simp, fun x hx => (by rw [hst.out] at hx; cases hx), fun i hi => by omega⟩, by omega, by omega, by omega⟩
        · go_wp2
          all_goals
            go_ret
            exact ⟨rfl, _, _, _, rfl, ⟨by rw [hst.out]; simp, fun x hx => (by rw [hst.out] at hx; cases hx), fun i hi => by omega⟩, by omega, by omega, by omega⟩

theorem lex_step {A B : List Int} {k : Nat} (h1 : k < A.length) (h2 : k < B.length) (e : Bt A k = Bt B k) : lex (A.drop k) (B.drop k) = lex (A.drop (k + 1)) (B.drop (k + 1)) := by
  rw [bt_drop h1, bt_drop h2]; simp [lex, e]
theorem lex_lt {A B : List Int} {k : Nat} (h1 : k < A.length) (h2 : k < B.length) (e : Bt A k < Bt B k) : lex (A.drop k) (B.drop k) = -1 := by
  rw [bt_drop h1, bt_drop h2]; simp only [lex]; rw [if_neg (by omega), if_pos e]
theorem lex_gt {A B : List Int} {k : Nat} (h1 : k < A.length) (h2 : k < B.length) (e : Bt B k < Bt A k) : lex (A.drop k) (B.drop k) = 1 := by
  rw [bt_drop h1, bt_drop h2]; simp only [lex]; rw [if_neg (by omega), if_neg (by omega)]
theorem lex_end {A B : List Int} {k : Nat} (h1 : A.length ≤ k) : lex (A.drop k) (B.drop k) = 0 := by
  rw [List.drop_eq_nil_of_le h1]; cases B.drop k <;> rfl

set_option maxRecDepth 100000 in
set_option maxHeartbeats 2000000 in
/-- cmpDigitsText. -/
theorem cmpt15 (s t : ByteArray) (w : World) (hs : s.size ≤ 1099511627776) (ht : t.size ≤ 1099511627776) :
    Calls Trym.prog 15 #[.string s, .string t] w fun e w' => e = .returned (.int .i64 (cmpL (sl s) (sl t))) ∧ ∃ q, w' = w.drewN q := by
  have HL : Hid ((sl s).length = s.size ∧ (sl t).length = t.size) := ⟨sl_len s, sl_len t⟩
  by_cases hlt : s.size < t.size
  · have HR : Hid (cmpL (sl s) (sl t) = -1) := by rw [Hid, cmpL, HL.out.1, HL.out.2, if_pos hlt]
    have n1 : ((s.size : Int) != (t.size : Int)) = true := by simp; omega
    have n2 : (s.size : Int) < (t.size : Int) := by omega
    go_enter Trym.func15, Trym.ntmps15
    go_wp2
    go_ret
    exact ⟨by rw [HR.out]; rfl, 0, rfl⟩
  by_cases hgt : t.size < s.size
  · have HR : Hid (cmpL (sl s) (sl t) = 1) := by rw [Hid, cmpL, HL.out.1, HL.out.2, if_neg hlt, if_neg (by omega)]
    have n1 : ((s.size : Int) != (t.size : Int)) = true := by simp; omega
    have n2 : ¬ (s.size : Int) < (t.size : Int) := by omega
    go_enter Trym.func15, Trym.ntmps15
    go_wp2
    go_ret
    exact ⟨by rw [HR.out]; rfl, 0, rfl⟩
  have heq : s.size = t.size := by omega
  have HR : Hid (cmpL (sl s) (sl t) = lex (sl s) (sl t)) := by rw [Hid, cmpL, HL.out.1, HL.out.2, if_neg hlt, if_pos heq]
  have n1 : ((s.size : Int) != (t.size : Int)) = false := by simp; omega
  have hge : s.size ≤ t.size := by omega
  have hle : t.size ≤ s.size := by omega
  clear heq hlt hgt
  go_enter Trym.func15, Trym.ntmps15
  go_wp2
  go_loopw [5] (fun x wr => ∃ k q : Nat, k ≤ s.size ∧ x = .int .i64 k ∧ wr = w.drewN q ∧ Hid (lex ((sl s).drop k) ((sl t).drop k) = lex (sl s) (sl t))) (fun x _ => s.size - (intOf x).toNat)
  case atStart => exact ⟨0, 0, Nat.zero_le _, rfl, rfl, rfl⟩
  case round =>
    obtain ⟨k, q, hk, rfl, rfl, hX⟩ := hrel
    by_cases hkn : k < s.size
    · have hks := sl_at hkn
      have hkt := sl_at (s := t) (k := k) (by omega)
      have hk1 : (k : Int) < (s.size : Int) := by omega
      have hk2 : (k : Int) < (t.size : Int) := by omega
      have l1 : k < (sl s).length := by rw [HL.out.1]; exact hkn
      have l2 : k < (sl t).length := by rw [HL.out.2]; omega
      by_cases e : Bt (sl s) k = Bt (sl t) k
      · have hX' : Hid (lex ((sl s).drop (k + 1)) ((sl t).drop (k + 1)) = lex (sl s) (sl t)) := by rw [Hid, ← lex_step l1 l2 e]; exact hX.out
        have ne : (Bt (sl s) k != Bt (sl t) k) = false := by simpa using e
        clear hX e l1 l2
        generalize Bt (sl s) k = x1 at *
        generalize Bt (sl t) k = x2 at *
        go_wp2
        go_quiet (fail)
        go_wp2
        go_roundw
        case rel => exact ⟨k + 1, _, by omega, by go_num, rfl, hX'⟩
        case measure => simp [intOf]; omega
      · have ne : (Bt (sl s) k != Bt (sl t) k) = true := by simpa using e
        by_cases hlt : Bt (sl s) k < Bt (sl t) k
        · have HF : Hid (cmpL (sl s) (sl t) = -1) := by rw [Hid, HR.out, ← hX.out]; exact lex_lt l1 l2 hlt
          clear hX e l1 l2
          generalize Bt (sl s) k = x1 at *
          generalize Bt (sl t) k = x2 at *
          go_wp2
          go_quiet (fail)
          go_wp2
          go_quiet (fail)
          go_wp2
          go_ret
          exact ⟨by rw [HF.out]; rfl, by first | exact dr1 _ _ _ | exact dr2 _ _ _ _⟩
        · have HF : Hid (cmpL (sl s) (sl t) = 1) := by rw [Hid, HR.out, ← hX.out]; exact lex_gt l1 l2 (by omega)
          clear hX e l1 l2
          generalize Bt (sl s) k = x1 at *
          generalize Bt (sl t) k = x2 at *
          go_wp2
          go_quiet (fail)
          go_wp2
          go_quiet (fail)
          go_wp2
          go_ret
          exact ⟨by rw [HF.out]; rfl, by first | exact dr1 _ _ _ | exact dr2 _ _ _ _⟩
    · have HF : Hid (cmpL (sl s) (sl t) = 0) := by rw [Hid, HR.out, ← hX.out]; exact lex_end (by rw [HL.out.1]; omega)
      clear hX
      go_wp2
      go_ret
      exact ⟨by rw [HF.out]; rfl, q, rfl⟩

set_option maxRecDepth 100000 in
set_option maxHeartbeats 2000000 in
/-- cmpBigEndian. -/
theorem cmpb14 (a b : Option Addr) (n m ca cb : Nat) (la lb : List Int) (w : World) (hva : View w a n la) (hvb : View w b m lb) (hn : n ≤ 1099511627776) (hm : m ≤ 1099511627776) (hca : n ≤ ca) (hcb : m ≤ cb) (hxa : ca ≤ maxLen) (hxb : cb ≤ maxLen) (A B : List Int) (hA : Hid (strip la = A)) (hB : Hid (strip lb = B)) :
    Calls Trym.prog 14 #[.slice a n ca, .slice b m cb] w fun e w' => e = .returned (.int .i64 (cmpL A B)) ∧ ∃ q, w' = w.drewN q := by
  go_enter Trym.func14, Trym.ntmps14
  go_wp2_with fail
  refine (strip22 a n ca la _ (by exact hva) hn hca hxa).mono ?_
  rintro e w1 ⟨rfl, a1, n1, c1, rfl, hV1, hc1, hn1, _⟩
  go_wp2_with fail
  refine (strip22 b m cb lb _ (by exact hvb) hm hcb hxb).mono ?_
  rintro e w1 ⟨rfl, a2, n2, c2, rfl, hV2, hc2, hn2, _⟩
  rw [hA.out] at hV1
  rw [hB.out] at hV2
  have l1 := hV1.1
  have l2 := hV2.1
  clear hva hvb
  by_cases hlt : n1 < n2
  · have HR : Hid (cmpL A B = -1) := by rw [Hid, cmpL, l1, l2, if_pos hlt]
    have x1 : ((n1 : Int) != (n2 : Int)) = true := by simp; omega
    have x2 : (n1 : Int) < (n2 : Int) := by omega
    clear hV1 hV2 l1 l2
    go_wp2
    go_ret
    exact ⟨by rw [HR.out]; rfl, 0, rfl⟩
  by_cases hgt : n2 < n1
  · have HR : Hid (cmpL A B = 1) := by rw [Hid, cmpL, l1, l2, if_neg hlt, if_neg (by omega)]
    have x1 : ((n1 : Int) != (n2 : Int)) = true := by simp; omega
    have x2 : ¬ (n1 : Int) < (n2 : Int) := by omega
    clear hV1 hV2 l1 l2
    go_wp2
    go_ret
    exact ⟨by rw [HR.out]; rfl, 0, rfl⟩
  obtain rfl : n2 = n1 := by omega
  have HR : Hid (cmpL A B = lex A B) := by rw [Hid, cmpL, l1, l2, if_neg hlt, if_pos rfl]
  have HL : Hid (A.length = n2 ∧ B.length = n2) := ⟨l1, l2⟩
  have HV1 : Hid (View w a1 n2 A) := hV1
  have HV2 : Hid (View w a2 n2 B) := hV2
  clear hlt hgt hV1 hV2 l1 l2
  go_wp2
  go_loopw [5] (fun x wr => ∃ k q : Nat, k ≤ n2 ∧ x = .int .i64 k ∧ wr = w.drewN q ∧ Hid (lex (A.drop k) (B.drop k) = lex A B)) (fun x _ => n2 - (intOf x).toNat)
  case atStart => exact ⟨0, 0, Nat.zero_le _, rfl, rfl, rfl⟩
  case round =>
    obtain ⟨k, q, hk, rfl, rfl, hX⟩ := hrel
    by_cases hkn : k < n2
    · obtain ⟨b1, o1, h1, hc1⟩ := HV1.out.cells (by omega)
      obtain ⟨b2, o2, h2, hc2⟩ := HV2.out.cells (by omega)
      have g1 := hc1 k hkn
      have g2 := hc2 k hkn
      have hk1 : (k : Int) < (n2 : Int) := by omega
      have l1 : k < A.length := by rw [HL.out.1]; exact hkn
      have l2 : k < B.length := by rw [HL.out.2]; exact hkn
      subst h1
      subst h2
      clear hc1 hc2
      by_cases e : Bt A k = Bt B k
      · have hX' : Hid (lex (A.drop (k + 1)) (B.drop (k + 1)) = lex A B) := by rw [Hid, ← lex_step l1 l2 e]; exact hX.out
        have ne : (Bt A k != Bt B k) = false := by simpa using e
        clear hX e l1 l2
        go_wp2
        go_quiet (fail)
        go_wp2
        go_roundw
        case rel => exact ⟨k + 1, _, by omega, by go_num, rfl, hX'⟩
        case measure => simp [intOf]; omega
      · have ne : (Bt A k != Bt B k) = true := by simpa using e
        by_cases hlt : Bt A k < Bt B k
        · have HF : Hid (cmpL A B = -1) := by rw [Hid, HR.out, ← hX.out]; exact lex_lt l1 l2 hlt
          clear hX e l1 l2
          go_wp2
          go_quiet (fail)
          go_wp2
          go_quiet (fail)
          go_wp2
          go_ret
          exact ⟨by rw [HF.out]; rfl, by first | exact dr1 _ _ _ | exact dr2 _ _ _ _⟩
        · have HF : Hid (cmpL A B = 1) := by rw [Hid, HR.out, ← hX.out]; exact lex_gt l1 l2 (by omega)
          clear hX e l1 l2
          go_wp2
          go_quiet (fail)
          go_wp2
          go_quiet (fail)
          go_wp2
          go_ret
          exact ⟨by rw [HF.out]; rfl, by first | exact dr1 _ _ _ | exact dr2 _ _ _ _⟩
    · have HF : Hid (cmpL A B = 0) := by rw [Hid, HR.out, ← hX.out]; exact lex_end (by rw [HL.out.1]; omega)
      clear hX
      go_wp2
      go_ret
      exact ⟨by rw [HF.out]; rfl, q, rfl⟩

end Go.Proofs.Qxb6601977aMods.Kp
