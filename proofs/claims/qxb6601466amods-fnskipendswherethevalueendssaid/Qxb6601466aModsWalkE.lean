/-
  WALKS of seat b6601466aM: the tests on one character; zzWS.
-/
import Derived.Test.Qxb6601466aModsWalkB
import Derived.Test.Qxb6601466aModsPlainS
namespace Go.Proofs.Qxb6601466aMods.Kp
open Go.RowKit
set_option linter.unusedVariables false

theorem ne_beq {c k : Int} (h : c ≠ k) : (c == k) = false := by simpa using h

theorem isws24 (c : Int) (w : World) : Calls Trym.prog 24 #[.int .u8 c] w fun e w' => e = .returned (.bool (wsB c)) ∧ w = w' := by
  by_cases h1 : c = 32
  · subst h1
    go_enter Trym.func24, Trym.ntmps24
    go_wp2
    go_ret
    exact ⟨rfl, rfl⟩
  by_cases h2 : c = 9
  · subst h2
    go_enter Trym.func24, Trym.ntmps24
    go_wp2
    go_ret
    exact ⟨rfl, rfl⟩
  by_cases h3 : c = 10
  · subst h3
    go_enter Trym.func24, Trym.ntmps24
    go_wp2
    go_ret
    exact ⟨rfl, rfl⟩
  by_cases h4 : c = 13
  · subst h4
    go_enter Trym.func24, Trym.ntmps24
    go_wp2
    go_ret
    exact ⟨rfl, rfl⟩
  have H : Hid (wsB c = false) := wsB_no ⟨h1, h2, h3, h4⟩
  replace h1 := ne_beq h1
  replace h2 := ne_beq h2
  replace h3 := ne_beq h3
  replace h4 := ne_beq h4
  go_enter Trym.func24, Trym.ntmps24
  go_wp2
  go_ret
  exact ⟨by rw [H.out]; rfl, rfl⟩

theorem isspace36 (c : Int) (w : World) : Calls Trym.prog 36 #[.int .u8 c] w fun e w' => e = .returned (.bool (wsB c)) ∧ w = w' := by
  by_cases h1 : c = 32
  · subst h1
    go_enter Trym.func36, Trym.ntmps36
    go_wp2
    go_ret
    exact ⟨rfl, rfl⟩
  by_cases h2 : c = 9
  · subst h2
    go_enter Trym.func36, Trym.ntmps36
    go_wp2
    go_ret
    exact ⟨rfl, rfl⟩
  by_cases h3 : c = 10
  · subst h3
    go_enter Trym.func36, Trym.ntmps36
    go_wp2
    go_ret
    exact ⟨rfl, rfl⟩
  by_cases h4 : c = 13
  · subst h4
    go_enter Trym.func36, Trym.ntmps36
    go_wp2
    go_ret
    exact ⟨rfl, rfl⟩
  have H : Hid (wsB c = false) := wsB_no ⟨h1, h2, h3, h4⟩
  replace h1 := ne_beq h1
  replace h2 := ne_beq h2
  replace h3 := ne_beq h3
  replace h4 := ne_beq h4
  go_enter Trym.func36, Trym.ntmps36
  go_wp2
  go_ret
  exact ⟨by rw [H.out]; rfl, rfl⟩

theorem follows12 (c : Int) (w : World) : Calls Trym.prog 12 #[.int .u8 c] w fun e w' => e = .returned (.bool (endsB c)) ∧ w = w' := by
  cases hw : wsB c with
  | true =>
    have H : Hid (endsB c = true) := endsB_ws hw
    go_enter Trym.func12, Trym.ntmps12
    go_wp2_with (go_at_call 24; refine (isws24 _ _).mono ?_; rintro e w' ⟨rfl, rfl⟩)
    go_ret
    exact ⟨by rw [H.out]; rfl, rfl⟩
  | false =>
    by_cases h1 : c = 44
    · subst h1
      go_enter Trym.func12, Trym.ntmps12
      go_wp2_with (go_at_call 24; refine (isws24 _ _).mono ?_; rintro e w' ⟨rfl, rfl⟩)
      go_ret
      exact ⟨rfl, rfl⟩
    by_cases h2 : c = 58
    · subst h2
      go_enter Trym.func12, Trym.ntmps12
      go_wp2_with (go_at_call 24; refine (isws24 _ _).mono ?_; rintro e w' ⟨rfl, rfl⟩)
      go_ret
      exact ⟨rfl, rfl⟩
    by_cases h3 : c = 93
    · subst h3
      go_enter Trym.func12, Trym.ntmps12
      go_wp2_with (go_at_call 24; refine (isws24 _ _).mono ?_; rintro e w' ⟨rfl, rfl⟩)
      go_ret
      exact ⟨rfl, rfl⟩
    by_cases h4 : c = 125
    · subst h4
      go_enter Trym.func12, Trym.ntmps12
      go_wp2_with (go_at_call 24; refine (isws24 _ _).mono ?_; rintro e w' ⟨rfl, rfl⟩)
      go_ret
      exact ⟨rfl, rfl⟩
    replace h1 := ne_beq h1
    replace h2 := ne_beq h2
    replace h3 := ne_beq h3
    replace h4 := ne_beq h4
    have H : Hid (endsB c = false) := by simp [Hid, endsB, h1, h2, h3, h4, hw]
    go_enter Trym.func12, Trym.ntmps12
    go_wp2_with (go_at_call 24; refine (isws24 _ _).mono ?_; rintro e w' ⟨rfl, rfl⟩)
    go_ret
    exact ⟨by rw [H.out]; rfl, rfl⟩

theorem ends37 (c : Int) (w : World) : Calls Trym.prog 37 #[.int .u8 c] w fun e w' => e = .returned (.bool (endsB c)) ∧ w = w' := by
  by_cases h1 : c = 44
  · subst h1
    go_enter Trym.func37, Trym.ntmps37
    go_wp2
    go_ret
    exact ⟨rfl, rfl⟩
  by_cases h2 : c = 58
  · subst h2
    go_enter Trym.func37, Trym.ntmps37
    go_wp2
    go_ret
    exact ⟨rfl, rfl⟩
  by_cases h3 : c = 93
  · subst h3
    go_enter Trym.func37, Trym.ntmps37
    go_wp2
    go_ret
    exact ⟨rfl, rfl⟩
  by_cases h4 : c = 125
  · subst h4
    go_enter Trym.func37, Trym.ntmps37
    go_wp2
    go_ret
    exact ⟨rfl, rfl⟩
  replace h1 := ne_beq h1
  replace h2 := ne_beq h2
  replace h3 := ne_beq h3
  replace h4 := ne_beq h4
  have H : Hid (endsB c = wsB c) := by simp [Hid, endsB, h1, h2, h3, h4]
  go_enter Trym.func37, Trym.ntmps37
  go_wp2_with (go_at_call 36; refine (isspace36 _ _).mono ?_; rintro e w' ⟨rfl, rfl⟩)
  go_ret
  exact ⟨by rw [H.out]; rfl, rfl⟩

def digB (c : Int) : Bool := decide (48 ≤ c) && decide (c ≤ 57)
def hexB (c : Int) : Bool := digB c || (decide (97 ≤ c) && decide (c ≤ 102)) || (decide (65 ≤ c) && decide (c ≤ 70))
theorem digB_iff {c : Int} : digB c = true ↔ 48 ≤ c ∧ c ≤ 57 := by simp [digB]
theorem hexB_hexc {c : Int} (h : hexB c = true) : Hexc c := by simp [hexB, digB] at h; unfold Hexc; omega

theorem digit33 (c : Int) (w : World) : Calls Trym.prog 33 #[.int .u8 c] w fun e w' => e = .returned (.bool (digB c)) ∧ w = w' := by
  by_cases h1 : 48 ≤ c
  · by_cases h2 : c ≤ 57
    · have H : Hid (digB c = true) := by simp [Hid, digB, h1, h2]
      go_enter Trym.func33, Trym.ntmps33
      go_wp2
      go_ret
      exact ⟨by rw [H.out]; rfl, rfl⟩
    · have H : Hid (digB c = false) := by simp [Hid, digB, h1, h2]
      go_enter Trym.func33, Trym.ntmps33
      go_wp2
      go_ret
      exact ⟨by rw [H.out]; rfl, rfl⟩
  · have H : Hid (digB c = false) := by simp [Hid, digB, h1]
    have hd : decide (48 ≤ c) = false := decide_eq_false h1
    go_enter Trym.func33, Trym.ntmps33
    go_wp2
    go_ret
    exact ⟨by rw [H.out]; rfl, rfl⟩

theorem hex31 (c : Int) (w : World) : Calls Trym.prog 31 #[.int .u8 c] w fun e w' => e = .returned (.bool (hexB c)) ∧ w = w' := by
  cases hd : digB c with
  | true =>
    have H : Hid (hexB c = true) := by simp [Hid, hexB, hd]
    go_enter Trym.func31, Trym.ntmps31
    go_wp2_with (go_at_call 33; refine (digit33 _ _).mono ?_; rintro e w' ⟨rfl, rfl⟩)
    go_ret
    exact ⟨by rw [H.out]; rfl, rfl⟩
  | false =>
    rcases (show (¬ 97 ≤ c ∧ ¬ 65 ≤ c) ∨ (¬ 97 ≤ c ∧ 65 ≤ c ∧ c ≤ 70) ∨ (¬ 97 ≤ c ∧ 65 ≤ c ∧ ¬ c ≤ 70) ∨ (97 ≤ c ∧ c ≤ 102) ∨ (97 ≤ c ∧ ¬ c ≤ 102 ∧ 65 ≤ c ∧ ¬ c ≤ 70) from by omega) with ⟨h1, h2⟩ | ⟨h1, h2, h3⟩ | ⟨h1, h2, h3⟩ | ⟨h1, h2⟩ | ⟨h1, h2, h3, h4⟩
    · have H : Hid (hexB c = false) := by simp [Hid, hexB, hd, h1, h2]
      replace h1 := decide_eq_false h1
      replace h2 := decide_eq_false h2
      go_enter Trym.func31, Trym.ntmps31
      go_wp2_with (go_at_call 33; refine (digit33 _ _).mono ?_; rintro e w' ⟨rfl, rfl⟩)
      go_ret
      exact ⟨by rw [H.out]; rfl, rfl⟩
    · have H : Hid (hexB c = true) := by simp [Hid, hexB, hd, h1, h2, h3]
      replace h1 := decide_eq_false h1
      go_enter Trym.func31, Trym.ntmps31
      go_wp2_with (go_at_call 33; refine (digit33 _ _).mono ?_; rintro e w' ⟨rfl, rfl⟩)
      go_ret
      exact ⟨by rw [H.out]; rfl, rfl⟩
    · have H : Hid (hexB c = false) := by simp [Hid, hexB, hd, h1, h2, h3]
      replace h1 := decide_eq_false h1
      replace h3 := decide_eq_false h3
      go_enter Trym.func31, Trym.ntmps31
      go_wp2_with (go_at_call 33; refine (digit33 _ _).mono ?_; rintro e w' ⟨rfl, rfl⟩)
      go_ret
      exact ⟨by rw [H.out]; rfl, rfl⟩
    · have H : Hid (hexB c = true) := by simp [Hid, hexB, hd, h1, h2]
      go_enter Trym.func31, Trym.ntmps31
      go_wp2_with (go_at_call 33; refine (digit33 _ _).mono ?_; rintro e w' ⟨rfl, rfl⟩)
      go_ret
      exact ⟨by rw [H.out]; rfl, rfl⟩
    · have H : Hid (hexB c = false) := by simp [Hid, hexB, hd, h1, h2, h3, h4]
      replace h2 := decide_eq_false h2
      replace h4 := decide_eq_false h4
      go_enter Trym.func31, Trym.ntmps31
      go_wp2_with (go_at_call 33; refine (digit33 _ _).mono ?_; rintro e w' ⟨rfl, rfl⟩)
      go_ret
      exact ⟨by rw [H.out]; rfl, rfl⟩

set_option maxHeartbeats 400000 in
/-- zzWS: where the white space from i on ends. -/
theorem ws10 (a : Option Addr) (n cap i : Nat) (iz : Int) (hiz : iz = i) (l : List Int) (w : World) (hn : n ≤ 1099511627776) (hi : i ≤ n) (hv : View w a n l) :
    Calls Trym.prog 10 #[.slice a n cap, .int .i64 iz] w fun e w' => w = w' ∧ ∃ j : Nat, e = .returned (.int .i64 j) ∧ WS l i j := by
  subst hiz
  have hl := hv.1
  by_cases hin : n ≤ i
  · have hd : decide ((i : Int) < (n : Int)) = false := decide_eq_false (by omega)
    go_enter Trym.func10, Trym.ntmps10
    go_wp2
    refine wp_loop_rounds 1 ?_
    rw [rounds_succ]
    go_wp2
    go_ret
    exact ⟨rfl, i, rfl, Nat.le_refl _, by omega, fun k h1 h2 => by omega, fun h => by omega⟩
  obtain ⟨b, off, rfl, hc⟩ := hv.cells (by omega)
  clear hv
  go_enter Trym.func10, Trym.ntmps10
  go_wp2
  go_loop [1] (fun x => ∃ k : Nat, i ≤ k ∧ k ≤ n ∧ x = .int .i64 k ∧ Hid (∀ m, i ≤ m → m < k → wsB (Bt l m) = true)) (fun x => n - (intOf x).toNat)
  case atStart => exact ⟨i, Nat.le_refl _, by omega, rfl, fun m h1 h2 => by omega⟩
  case round =>
    obtain ⟨k, hk, hkn, rfl, hall⟩ := hrel
    by_cases hlt : k < n
    · have g1 := hc k hlt
      have hlt' : (k : Int) < (n : Int) := by omega
      cases hw : wsB (Bt l k) with
      | true =>
        have hall' : Hid (∀ m, i ≤ m → m < k + 1 → wsB (Bt l m) = true) := fun m h1 h2 => by
          by_cases e : m = k
          · subst e; exact hw
          · exact hall.out m h1 (by omega)
        clear hc hall
        go_wp2_with (go_at_call 24; refine (isws24 _ _).mono ?_; rintro e w' ⟨rfl, rfl⟩)
        go_round
        case rel => exact ⟨k + 1, by omega, by omega, by go_num, hall'⟩
        case measure => simp [intOf]; omega
      | false =>
        have hend : WS l i k := ⟨hk, by omega, hall.out, fun _ => hw⟩
        clear hc hall
        go_wp2_with (go_at_call 24; refine (isws24 _ _).mono ?_; rintro e w' ⟨rfl, rfl⟩)
        go_ret
        exact ⟨rfl, k, rfl, hend⟩
    · have hd : decide ((k : Int) < (n : Int)) = false := decide_eq_false (by omega)
      have hend : WS l i k := ⟨hk, by omega, hall.out, fun _ => by omega⟩
      clear hc hall
      go_wp2
      go_ret
      exact ⟨rfl, k, rfl, hend⟩

end Go.Proofs.Qxb6601466aMods.Kp
