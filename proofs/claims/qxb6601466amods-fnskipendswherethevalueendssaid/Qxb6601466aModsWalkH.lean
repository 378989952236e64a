/-
  WALKS of seat b6601466aM: zzLitEnd.
-/
import Derived.Test.Qxb6601466aModsWalkG
import Derived.Deep.DeepCutAuto
namespace Go.Proofs.Qxb6601466aMods.Kp
open Go.RowKit
set_option linter.unusedVariables false

/-- Literal characters from i to k. -/
def Lx (l : List Int) (i k : Nat) : Prop := ∀ m, i ≤ m → m < k → Lc (Bt l m)
theorem Lx.step {l : List Int} {i k : Nat} (h : Lx l i k) (hc : Lc (Bt l k)) : Lx l i (k + 1) := fun m h1 h2 => by
  by_cases e : m = k
  · subst e; exact hc
  · exact h m h1 (by omega)
theorem lc_dig {c : Int} (h : digB c = true) : Lc c := by have := digB_iff.1 h; unfold Lc; omega
theorem lc_is {c k : Int} (h : c = k) (hk : k = 43 ∨ k = 45 ∨ k = 46 ∨ k = 48 ∨ k = 69 ∨ k = 101) : Lc c := by unfold Lc; omega
theorem lit_of_word {l : List Int} {i : Nat} {s : ByteArray} (hs : ∀ k, k < s.size → 97 ≤ sb s k ∧ sb s k ≤ 122) (h0 : 0 < s.size) (h1 : i + s.size ≤ l.length) (h2 : ∀ k, k < s.size → Bt l (i + k) = sb s k) : LitTo l i (i + s.size) := by
  refine ⟨by omega, h1, fun m a b => ?_⟩
  have h3 := h2 (m - i) (by omega)
  rw [show i + (m - i) = m by omega] at h3
  have h4 := hs (m - i) (by omega)
  rw [h3]
  unfold Lc
  omega

set_option maxRecDepth 100000 in
set_option maxHeartbeats 4000000 in
/-- zzLitEnd: -1, or the end of a run of literal characters. -/
theorem litend27 (b off n cap i : Nat) (iz : Int) (hiz : iz = i) (l : List Int) (w : World) (hn : n ≤ 1099511627776) (hi : i < n) (hv : View w (some ⟨b, off, none⟩) n l) :
    Calls Trym.prog 27 #[.slice (some ⟨b, off, none⟩) n cap, .int .i64 iz] w fun e w' => (∃ q, w' = w.drewN q) ∧ (e = .returned (.int .i64 (-1)) ∨ ∃ r : Nat, e = .returned (.int .i64 r) ∧ LitTo l i r) := by
  subst hiz
  have hl := hv.1
  obtain ⟨b', off', e, hc⟩ := hv.cells (by omega)
  simp only [Option.some.injEq, Addr.mk.injEq, and_true] at e
  obtain ⟨rfl, rfl⟩ := e
  have HC : Hid (∀ i, i < n → w.cell? ⟨b, off + i, none⟩ = some (.int .u8 (Bt l i))) := hc
  clear hc
  have hi' : (i : Int) < (n : Int) := by omega
  go_enter Trym.func27, Trym.ntmps27
  go_wp2_with fail
  refine (hasat32 b off n cap i _ rfl l _ (by decide) _ hn (by omega) (by exact hv)).mono ?_
  rintro e w1 ⟨r, q, rfl, rfl, hr⟩
  cases r with
  | true =>
    have hlit : Hid (LitTo l i (i + 4)) := lit_of_word (s := ⟨#[116, 114, 117, 101]⟩) (by decide) (by decide) (by rw [hl]; exact (hr rfl).1) (hr rfl).2
    clear hr hv
    go_wp2
    go_ret
    exact ⟨⟨q, rfl⟩, .inr ⟨i + 4, by go_num, hlit.out⟩⟩
  | false =>
  clear hr
  go_wp2_with fail
  refine (hasat32 b off n cap i _ rfl l _ (by decide) _ hn (by omega) (by exact hv)).mono ?_
  rintro e w1 ⟨r, q2, rfl, rfl, hr⟩
  cases r with
  | true =>
    have hlit : Hid (LitTo l i (i + 4)) := lit_of_word (s := ⟨#[110, 117, 108, 108]⟩) (by decide) (by decide) (by rw [hl]; exact (hr rfl).1) (hr rfl).2
    clear hr hv
    go_wp2
    go_ret
    exact ⟨⟨q + q2, by simp⟩, .inr ⟨i + 4, by go_num, hlit.out⟩⟩
  | false =>
  clear hr
  go_wp2_with fail
  refine (hasat32 b off n cap i _ rfl l _ (by decide) _ hn (by omega) (by exact hv)).mono ?_
  rintro e w1 ⟨r, q3, rfl, rfl, hr⟩
  cases r with
  | true =>
    have hlit : Hid (LitTo l i (i + 5)) := lit_of_word (s := ⟨#[102, 97, 108, 115, 101]⟩) (by decide) (by decide) (by rw [hl]; exact (hr rfl).1) (hr rfl).2
    clear hr hv
    go_wp2
    go_ret
    exact ⟨⟨q + q2 + q3, by simp⟩, .inr ⟨i + 5, by go_num, hlit.out⟩⟩
  | false =>
  clear hr hv
  have g0 := HC.out i hi
  go_upto_if 36 with fail
  go_cut [6] (fun x wc => ∃ k qx : Nat, i ≤ k ∧ k ≤ n ∧ x = .int .i64 k ∧ wc = w.drewN qx ∧ Hid (Lx l i k))
  case first =>
    cases h45 : (Bt l i == 45) with
    | true =>
      go_wp2
      go_meet
      exact ⟨i + 1, q + q2 + q3, by omega, by omega, by go_num, by simp [Nat.add_assoc], fun m h1 h2 => by obtain rfl : m = i := (by omega); exact lc_is (by simpa using h45) (by omega)⟩
    | false =>
      go_wp2
      go_meet
      exact ⟨i, q + q2 + q3, by omega, by omega, rfl, by simp [Nat.add_assoc], fun m h1 h2 => by omega⟩
  case rest =>
  obtain ⟨k, qx, hik, hkn, rfl, rfl, hx⟩ := hcut
  clear g0
  by_cases hk : k < n
  case neg =>
    have hk' : (n : Int) ≤ (k : Int) := by omega
    go_wp2
    go_ret
    exact ⟨⟨qx, rfl⟩, .inl rfl⟩
  have gk := HC.out k hk
  have hk' : (k : Int) < (n : Int) := by omega
  have hk2 : ¬ (n : Int) ≤ (k : Int) := by omega
  go_upto_if 46 with fail
  go_cut [6] (fun x wc => ∃ k qx : Nat, i < k ∧ k ≤ n ∧ x = .int .i64 k ∧ wc = w.drewN qx ∧ Hid (Lx l i k))
  case first =>
    cases h48 : (Bt l k == 48) with
    | true =>
      have hx1 : Hid (Lx l i (k + 1)) := hx.out.step (lc_is (by simpa using h48) (by omega))
      go_wp2
      go_meet
      exact ⟨k + 1, qx, by omega, by omega, by go_num, rfl, hx1⟩
    | false =>
      cases hd : digB (Bt l k) with
      | false =>
        go_wp2_with (go_at_call 33; refine (digit33 _ _).mono ?_; rintro e w' ⟨rfl, rfl⟩)
        go_ret
        exact ⟨⟨qx, rfl⟩, .inl rfl⟩
      | true =>
        have hx0 : Hid (Lx l i k) := hx
        go_wp2_with (go_at_call 33; refine (digit33 _ _).mono ?_; rintro e w' ⟨rfl, rfl⟩)
        go_loop [6] (fun x => ∃ m : Nat, k ≤ m ∧ m ≤ n ∧ x = .int .i64 m ∧ Hid (Lx l i m)) (fun x => n - (intOf x).toNat)
        case atStart => exact ⟨k, Nat.le_refl _, by omega, by go_num, hx0⟩
        case round =>
          obtain ⟨m, hm1, hm2, rfl, hxm⟩ := hrel
          by_cases hmn : m < n
          · have gm := HC.out m hmn
            have hmn' : (m : Int) < (n : Int) := by omega
            cases hdm : digB (Bt l m) with
            | true =>
              have hxm' : Hid (Lx l i (m + 1)) := hxm.out.step (lc_dig hdm)
              clear hxm
              go_wp2_with (go_at_call 33; refine (digit33 _ _).mono ?_; rintro e w' ⟨rfl, rfl⟩)
              go_round
              case rel => exact ⟨m + 1, by omega, by omega, by go_num, hxm'⟩
              case measure => simp [intOf]; omega
            | false =>
              have hmk : k < m := by
                rcases Nat.lt_or_ge k m with h | h
                · exact h
                · exfalso
                  obtain rfl : m = k := by omega
                  first | omega | (rw [hd] at hdm; cases hdm)
              go_wp2_with (go_at_call 33; refine (digit33 _ _).mono ?_; rintro e w' ⟨rfl, rfl⟩)
              go_meet
              exact ⟨m, qx, by omega, by omega, rfl, rfl, hxm⟩
          · have hmd : decide ((m : Int) < (n : Int)) = false := decide_eq_false (by omega)
            have hmk : k < m := by
              rcases Nat.lt_or_ge k m with h | h
              · exact h
              · exfalso
                obtain rfl : m = k := by omega
                first | omega | (rw [hd] at hdm; cases hdm)
            go_wp2_with fail
            go_meet
            exact ⟨m, qx, by omega, by omega, rfl, rfl, hxm⟩
  case rest =>
  clear hx gk hk' hk2 hk hkn hik k qx
  obtain ⟨k, qx, hik, hkn, rfl, rfl, hx⟩ := hcut
  by_cases hk : k < n
  case neg =>
    have hk' : decide ((k : Int) < (n : Int)) = false := decide_eq_false (by omega)
    go_wp2
    go_ret
    exact ⟨⟨qx, rfl⟩, .inr ⟨k, rfl, hik, by omega, hx.out⟩⟩
  have gk := HC.out k hk
  have hk' : (k : Int) < (n : Int) := by omega
  go_upto_if 75 with fail
  go_cut [6] (fun x wc => ∃ k qx : Nat, i < k ∧ k ≤ n ∧ x = .int .i64 k ∧ wc = w.drewN qx ∧ Hid (Lx l i k))
  case first =>
    cases h46 : (Bt l k == 46) with
    | false =>
      go_wp2
      go_meet
      exact ⟨k, qx, by omega, by omega, rfl, rfl, hx⟩
    | true =>
      have hx0 : Hid (Lx l i (k + 1)) := hx.out.step (lc_is (by simpa using h46) (by omega))
      go_wp2_with fail
      go_loop [6] (fun x => ∃ m : Nat, (k + 1) ≤ m ∧ m ≤ n ∧ x = .int .i64 m ∧ Hid (Lx l i m)) (fun x => n - (intOf x).toNat)
      case atStart => exact ⟨(k + 1), Nat.le_refl _, by omega, by go_num, hx0⟩
      case round =>
        obtain ⟨m, hm1, hm2, rfl, hxm⟩ := hrel
        by_cases hmn : m < n
        · have gm := HC.out m hmn
          have hmn' : (m : Int) < (n : Int) := by omega
          cases hdm : digB (Bt l m) with
          | true =>
            have hxm' : Hid (Lx l i (m + 1)) := hxm.out.step (lc_dig hdm)
            clear hxm
            go_wp2_with (go_at_call 33; refine (digit33 _ _).mono ?_; rintro e w' ⟨rfl, rfl⟩)
            go_round
            case rel => exact ⟨m + 1, by omega, by omega, by go_num, hxm'⟩
            case measure => simp [intOf]; omega
          | false =>
            by_cases hmk : m = k + 1
            · subst hmk
              go_wp2_with (go_at_call 33; refine (digit33 _ _).mono ?_; rintro e w' ⟨rfl, rfl⟩)
              go_ret
              exact ⟨⟨qx, rfl⟩, .inl rfl⟩
            · have hmk3 : k + 1 < m := by omega
              go_wp2_with (go_at_call 33; refine (digit33 _ _).mono ?_; rintro e w' ⟨rfl, rfl⟩)
              go_meet
              exact ⟨m, qx, by omega, by omega, rfl, rfl, hxm⟩
        · have hmd : decide ((m : Int) < (n : Int)) = false := decide_eq_false (by omega)
          by_cases hmk : m = k + 1
          · subst hmk
            go_wp2_with fail
            go_ret
            exact ⟨⟨qx, rfl⟩, .inl rfl⟩
          · have hmk3 : k + 1 < m := by omega
            go_wp2_with fail
            go_meet
            exact ⟨m, qx, by omega, by omega, rfl, rfl, hxm⟩
  case rest =>
  clear hx gk hk' hk hkn hik k qx
  obtain ⟨k, qx, hik, hkn, rfl, rfl, hx⟩ := hcut
  by_cases hk : k < n
  case neg =>
    have hk' : decide ((k : Int) < (n : Int)) = false := decide_eq_false (by omega)
    go_wp2
    go_ret
    exact ⟨⟨qx, rfl⟩, .inr ⟨k, rfl, hik, by omega, hx.out⟩⟩
  have gk := HC.out k hk
  have hk' : (k : Int) < (n : Int) := by omega
  by_cases h101 : Bt l k = 101 ∨ Bt l k = 69
  · have hx1 : Hid (Lx l i (k + 1)) := hx.out.step (h101.elim (fun h => lc_is h (by omega)) (fun h => lc_is h (by omega)))
    have hor : (Bt l k == 101) = true ∨ ((Bt l k == 101) = false ∧ (Bt l k == 69) = true) := by
      by_cases e : Bt l k = 101
      · exact .inl (by simpa using e)
      · exact .inr ⟨by simpa using e, by simpa using h101.resolve_left e⟩
    clear h101
    rcases hor with e1 | ⟨e1, e2⟩
    all_goals
      by_cases hk3 : k + 1 < n
      · have g3 := HC.out (k + 1) hk3
        have hk3' : (k : Int) + 1 < (n : Int) := by omega
        by_cases h43 : Bt l (k + 1) = 43
        · have hx0 : Hid (Lx l i (k + 1 + 1)) := hx1.out.step (lc_is h43 (by omega))
          rw [h43] at g3
          clear h43
          go_wp2_with fail
          go_loop [6] (fun x => ∃ m : Nat, (k + 1 + 1) ≤ m ∧ m ≤ n ∧ x = .int .i64 m ∧ Hid (Lx l i m)) (fun x => n - (intOf x).toNat)
          case atStart => exact ⟨(k + 1 + 1), Nat.le_refl _, by omega, by go_num, hx0⟩
          case round =>
            obtain ⟨m, hm1, hm2, rfl, hxm⟩ := hrel
            by_cases hmn : m < n
            · have gm := HC.out m hmn
              have hmn' : (m : Int) < (n : Int) := by omega
              cases hdm : digB (Bt l m) with
              | true =>
                have hxm' : Hid (Lx l i (m + 1)) := hxm.out.step (lc_dig hdm)
                clear hxm
                go_wp2_with (go_at_call 33; refine (digit33 _ _).mono ?_; rintro e w' ⟨rfl, rfl⟩)
                go_round
                case rel => exact ⟨m + 1, by omega, by omega, by go_num, hxm'⟩
                case measure => simp [intOf]; omega
              | false =>
                by_cases hmk : m = k + 1 + 1
                · first
                  | (exfalso; omega)
                  | (subst hmk
                     go_wp2_with (go_at_call 33; refine (digit33 _ _).mono ?_; rintro e w' ⟨rfl, rfl⟩)
                     go_ret
                     exact ⟨⟨qx, rfl⟩, .inl rfl⟩)
                · have hmk3 : k + 1 + 1 < m := by omega
                  first
                  | (exfalso; omega)
                  | (go_wp2_with (go_at_call 33; refine (digit33 _ _).mono ?_; rintro e w' ⟨rfl, rfl⟩)
                     go_ret
                     exact ⟨⟨qx, rfl⟩, .inr ⟨m, rfl, by omega, by omega, hxm.out⟩⟩)
            · have hmd : decide ((m : Int) < (n : Int)) = false := decide_eq_false (by omega)
              by_cases hmk : m = k + 1 + 1
              · first
                | (exfalso; omega)
                | (subst hmk
                   go_wp2_with fail
                   go_ret
                   exact ⟨⟨qx, rfl⟩, .inl rfl⟩)
              · have hmk3 : k + 1 + 1 < m := by omega
                first
                | (exfalso; omega)
                | (go_wp2_with fail
                   go_ret
                   exact ⟨⟨qx, rfl⟩, .inr ⟨m, rfl, by omega, by omega, hxm.out⟩⟩)
        replace h43 := ne_beq h43
        by_cases h45 : Bt l (k + 1) = 45
        · have hx0 : Hid (Lx l i (k + 1 + 1)) := hx1.out.step (lc_is h45 (by omega))
          rw [h45] at g3
          clear h45
          go_wp2_with fail
          go_loop [6] (fun x => ∃ m : Nat, (k + 1 + 1) ≤ m ∧ m ≤ n ∧ x = .int .i64 m ∧ Hid (Lx l i m)) (fun x => n - (intOf x).toNat)
          case atStart => exact ⟨(k + 1 + 1), Nat.le_refl _, by omega, by go_num, hx0⟩
          case round =>
            obtain ⟨m, hm1, hm2, rfl, hxm⟩ := hrel
            by_cases hmn : m < n
            · have gm := HC.out m hmn
              have hmn' : (m : Int) < (n : Int) := by omega
              cases hdm : digB (Bt l m) with
              | true =>
                have hxm' : Hid (Lx l i (m + 1)) := hxm.out.step (lc_dig hdm)
                clear hxm
                go_wp2_with (go_at_call 33; refine (digit33 _ _).mono ?_; rintro e w' ⟨rfl, rfl⟩)
                go_round
                case rel => exact ⟨m + 1, by omega, by omega, by go_num, hxm'⟩
                case measure => simp [intOf]; omega
              | false =>
                by_cases hmk : m = k + 1 + 1
                · first
                  | (exfalso; omega)
                  | (subst hmk
                     go_wp2_with (go_at_call 33; refine (digit33 _ _).mono ?_; rintro e w' ⟨rfl, rfl⟩)
                     go_ret
                     exact ⟨⟨qx, rfl⟩, .inl rfl⟩)
                · have hmk3 : k + 1 + 1 < m := by omega
                  first
                  | (exfalso; omega)
                  | (go_wp2_with (go_at_call 33; refine (digit33 _ _).mono ?_; rintro e w' ⟨rfl, rfl⟩)
                     go_ret
                     exact ⟨⟨qx, rfl⟩, .inr ⟨m, rfl, by omega, by omega, hxm.out⟩⟩)
            · have hmd : decide ((m : Int) < (n : Int)) = false := decide_eq_false (by omega)
              by_cases hmk : m = k + 1 + 1
              · first
                | (exfalso; omega)
                | (subst hmk
                   go_wp2_with fail
                   go_ret
                   exact ⟨⟨qx, rfl⟩, .inl rfl⟩)
              · have hmk3 : k + 1 + 1 < m := by omega
                first
                | (exfalso; omega)
                | (go_wp2_with fail
                   go_ret
                   exact ⟨⟨qx, rfl⟩, .inr ⟨m, rfl, by omega, by omega, hxm.out⟩⟩)
        replace h45 := ne_beq h45
        have hx0 : Hid (Lx l i (k + 1)) := hx1
        go_wp2_with fail
        go_loop [6] (fun x => ∃ m : Nat, (k + 1) ≤ m ∧ m ≤ n ∧ x = .int .i64 m ∧ Hid (Lx l i m)) (fun x => n - (intOf x).toNat)
        case atStart => exact ⟨(k + 1), Nat.le_refl _, by omega, by go_num, hx0⟩
        case round =>
          obtain ⟨m, hm1, hm2, rfl, hxm⟩ := hrel
          by_cases hmn : m < n
          · have gm := HC.out m hmn
            have hmn' : (m : Int) < (n : Int) := by omega
            cases hdm : digB (Bt l m) with
            | true =>
              have hxm' : Hid (Lx l i (m + 1)) := hxm.out.step (lc_dig hdm)
              clear hxm
              go_wp2_with (go_at_call 33; refine (digit33 _ _).mono ?_; rintro e w' ⟨rfl, rfl⟩)
              go_round
              case rel => exact ⟨m + 1, by omega, by omega, by go_num, hxm'⟩
              case measure => simp [intOf]; omega
            | false =>
              by_cases hmk : m = k + 1
              · first
                | (exfalso; omega)
                | (subst hmk
                   go_wp2_with (go_at_call 33; refine (digit33 _ _).mono ?_; rintro e w' ⟨rfl, rfl⟩)
                   go_ret
                   exact ⟨⟨qx, rfl⟩, .inl rfl⟩)
              · have hmk3 : k + 1 < m := by omega
                first
                | (exfalso; omega)
                | (go_wp2_with (go_at_call 33; refine (digit33 _ _).mono ?_; rintro e w' ⟨rfl, rfl⟩)
                   go_ret
                   exact ⟨⟨qx, rfl⟩, .inr ⟨m, rfl, by omega, by omega, hxm.out⟩⟩)
          · have hmd : decide ((m : Int) < (n : Int)) = false := decide_eq_false (by omega)
            by_cases hmk : m = k + 1
            · first
              | (exfalso; omega)
              | (subst hmk
                 go_wp2_with fail
                 go_ret
                 exact ⟨⟨qx, rfl⟩, .inl rfl⟩)
            · have hmk3 : k + 1 < m := by omega
              first
              | (exfalso; omega)
              | (go_wp2_with fail
                 go_ret
                 exact ⟨⟨qx, rfl⟩, .inr ⟨m, rfl, by omega, by omega, hxm.out⟩⟩)
      · have hk3d : decide ((k : Int) + 1 < (n : Int)) = false := decide_eq_false (by omega)
        have hx0 : Hid (Lx l i (k + 1)) := hx1
        go_wp2_with fail
        go_loop [6] (fun x => ∃ m : Nat, (k + 1) ≤ m ∧ m ≤ n ∧ x = .int .i64 m ∧ Hid (Lx l i m)) (fun x => n - (intOf x).toNat)
        case atStart => exact ⟨(k + 1), Nat.le_refl _, by omega, by go_num, hx0⟩
        case round =>
          obtain ⟨m, hm1, hm2, rfl, hxm⟩ := hrel
          by_cases hmn : m < n
          · have gm := HC.out m hmn
            have hmn' : (m : Int) < (n : Int) := by omega
            cases hdm : digB (Bt l m) with
            | true =>
              have hxm' : Hid (Lx l i (m + 1)) := hxm.out.step (lc_dig hdm)
              clear hxm
              go_wp2_with (go_at_call 33; refine (digit33 _ _).mono ?_; rintro e w' ⟨rfl, rfl⟩)
              go_round
              case rel => exact ⟨m + 1, by omega, by omega, by go_num, hxm'⟩
              case measure => simp [intOf]; omega
            | false =>
              by_cases hmk : m = k + 1
              · first
                | (exfalso; omega)
                | (subst hmk
                   go_wp2_with (go_at_call 33; refine (digit33 _ _).mono ?_; rintro e w' ⟨rfl, rfl⟩)
                   go_ret
                   exact ⟨⟨qx, rfl⟩, .inl rfl⟩)
              · have hmk3 : k + 1 < m := by omega
                first
                | (exfalso; omega)
                | (go_wp2_with (go_at_call 33; refine (digit33 _ _).mono ?_; rintro e w' ⟨rfl, rfl⟩)
                   go_ret
                   exact ⟨⟨qx, rfl⟩, .inr ⟨m, rfl, by omega, by omega, hxm.out⟩⟩)
          · have hmd : decide ((m : Int) < (n : Int)) = false := decide_eq_false (by omega)
            by_cases hmk : m = k + 1
            · first
              | (exfalso; omega)
              | (subst hmk
                 go_wp2_with fail
                 go_ret
                 exact ⟨⟨qx, rfl⟩, .inl rfl⟩)
            · have hmk3 : k + 1 < m := by omega
              first
              | (exfalso; omega)
              | (go_wp2_with fail
                 go_ret
                 exact ⟨⟨qx, rfl⟩, .inr ⟨m, rfl, by omega, by omega, hxm.out⟩⟩)
  · have e1 : (Bt l k == 101) = false := ne_beq (fun h => h101 (.inl h))
    have e2 : (Bt l k == 69) = false := ne_beq (fun h => h101 (.inr h))
    clear h101
    go_wp2
    go_ret
    exact ⟨⟨qx, rfl⟩, .inr ⟨k, rfl, hik, by omega, hx.out⟩⟩

end Go.Proofs.Qxb6601466aMods.Kp
