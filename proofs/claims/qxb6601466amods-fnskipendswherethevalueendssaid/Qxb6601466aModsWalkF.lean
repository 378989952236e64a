/-
  WALKS of seat b6601466aM: zzStrEnd, zzMember.
-/
import Derived.Test.Qxb6601466aModsWalkE
namespace Go.Proofs.Qxb6601466aMods.Kp
open Go.RowKit
set_option linter.unusedVariables false

set_option maxRecDepth 100000 in
set_option maxHeartbeats 2000000 in
/-- zzStrEnd: -1, or just past the quote at which str's scan ends too. -/
theorem strend26 (b off n cap i : Nat) (iz : Int) (hiz : iz = i) (l : List Int) (w : World) (hn : n ≤ 1099511627776) (hi : i ≤ n) (hv : View w (some ⟨b, off, none⟩) n l) :
    Calls Trym.prog 26 #[.slice (some ⟨b, off, none⟩) n cap, .int .i64 iz] w fun e w' => w = w' ∧ (e = .returned (.int .i64 (-1)) ∨ ∃ j : Nat, e = .returned (.int .i64 ((j + 1 : Nat) : Int)) ∧ i < n ∧ Bt l i = 34 ∧ Sc l (i + 1) j) := by
  subst hiz
  have hl := hv.1
  by_cases hin : n ≤ i
  · have hd : decide ((i : Int) < 0) = false := decide_eq_false (by omega)
    have hd2 : (n : Int) ≤ (i : Int) := by omega
    go_enter Trym.func26, Trym.ntmps26
    go_wp2
    go_ret
    exact ⟨rfl, .inl rfl⟩
  have hd : decide ((i : Int) < 0) = false := decide_eq_false (by omega)
  have hd2 : decide ((n : Int) ≤ (i : Int)) = false := decide_eq_false (by omega)
  have hin' : (i : Int) < (n : Int) := by omega
  obtain ⟨b', off', e, hc⟩ := hv.cells (by omega)
  simp only [Option.some.injEq, Addr.mk.injEq, and_true] at e
  obtain ⟨rfl, rfl⟩ := e
  clear hv
  have g0 := hc i (by omega)
  by_cases h34 : Bt l i = 34
  · rw [h34] at g0
    have H34 : Hid (Bt l i = 34) := h34
    clear h34
    go_enter Trym.func26, Trym.ntmps26
    go_wp2
    go_loop [6] (fun x => ∃ k : Nat, i + 1 ≤ k ∧ k ≤ n ∧ x = .int .i64 k ∧ Hid (∀ e, Sc l k e → Sc l (i + 1) e)) (fun x => n - (intOf x).toNat)
    case atStart => exact ⟨i + 1, Nat.le_refl _, by omega, by go_num, fun _ h => h⟩
    case round =>
      obtain ⟨k, hk, hkn, rfl, hsc⟩ := hrel
      clear g0
      by_cases hlt : k < n
      · have g1 := hc k hlt
        have hlt' : (k : Int) < (n : Int) := by omega
        by_cases c34 : Bt l k = 34
        · have hres := hsc.out k (Sc.quote (by omega) c34)
          have HR : Hid (Sc l (i + 1) k) := hres
          rw [c34] at g1
          clear hsc hres hc c34
          go_wp2
          go_ret
          exact ⟨rfl, .inr ⟨k, by go_num, by omega, H34.out, HR.out⟩⟩
        by_cases c32 : Bt l k < 32
        · have e1 := ne_beq c34
          clear hc hsc
          go_wp2
          go_ret
          exact ⟨rfl, .inl rfl⟩
        by_cases c92 : Bt l k = 92
        · rw [c92] at g1
          by_cases hk1 : k + 1 < n
          · have g2 := hc (k + 1) hk1
            have hk1' : ¬ (n : Int) ≤ (k : Int) + 1 := by omega
            have hk1'' : (k : Int) + 1 < (n : Int) := by omega
            have H2 : Hid (∀ e, Sc l (k + 2) e → Sc l (i + 1) e) := fun e h => hsc.out e (Sc.skip2 c92 h)
            by_cases c117 : Bt l (k + 1) = 117
            · rw [c117] at g2
              by_cases hk5 : k + 5 < n
              · have hk5' : ¬ (n : Int) ≤ (k : Int) + 5 := by omega
                have p2 : (k : Int) + 2 < (n : Int) := by omega
                have p3 : (k : Int) + 3 < (n : Int) := by omega
                have p4 : (k : Int) + 4 < (n : Int) := by omega
                have p5 : (k : Int) + 5 < (n : Int) := by omega
                have q2 := hc (k + 2) (by omega)
                have q3 := hc (k + 3) (by omega)
                have q4 := hc (k + 4) (by omega)
                have q5 := hc (k + 5) (by omega)
                have H6 : Hid (Hexc (Bt l (k + 2)) → Hexc (Bt l (k + 3)) → Hexc (Bt l (k + 4)) → Hexc (Bt l (k + 5)) → ∀ e, Sc l (k + 6) e → Sc l (i + 1) e) := fun a b c d e h => hsc.out e (sc_six c92 a b c d h)
                clear hsc H2 c92 c117 c34 c32 hc
                cases x2 : hexB (Bt l (k + 2)) with
                | false =>
                  go_wp2_with (go_at_call 31; refine (hex31 _ _).mono ?_; rintro e w' ⟨rfl, rfl⟩)
                  go_ret
                  exact ⟨rfl, .inl rfl⟩
                | true =>
                  cases x3 : hexB (Bt l (k + 3)) with
                  | false =>
                    go_wp2_with (go_at_call 31; refine (hex31 _ _).mono ?_; rintro e w' ⟨rfl, rfl⟩)
                    go_ret
                    exact ⟨rfl, .inl rfl⟩
                  | true =>
                    cases x4 : hexB (Bt l (k + 4)) with
                    | false =>
                      go_wp2_with (go_at_call 31; refine (hex31 _ _).mono ?_; rintro e w' ⟨rfl, rfl⟩)
                      go_ret
                      exact ⟨rfl, .inl rfl⟩
                    | true =>
                      cases x5 : hexB (Bt l (k + 5)) with
                      | false =>
                        go_wp2_with (go_at_call 31; refine (hex31 _ _).mono ?_; rintro e w' ⟨rfl, rfl⟩)
                        go_ret
                        exact ⟨rfl, .inl rfl⟩
                      | true =>
                        have H7 : Hid (∀ e, Sc l (k + 6) e → Sc l (i + 1) e) := H6.out (hexB_hexc x2) (hexB_hexc x3) (hexB_hexc x4) (hexB_hexc x5)
                        clear H6
                        go_wp2_with (go_at_call 31; refine (hex31 _ _).mono ?_; rintro e w' ⟨rfl, rfl⟩)
                        go_round
                        case rel => exact ⟨k + 6, by omega, by omega, by go_num, H7⟩
                        case measure => simp [intOf]; omega
              · have hk5' : (n : Int) ≤ (k : Int) + 5 := by omega
                clear hc hsc H2 c34 c92 c32 c117
                go_wp2
                go_ret
                exact ⟨rfl, .inl rfl⟩
            · have f0 := ne_beq c117
              clear hsc c34 c92 c32
              by_cases x34 : Bt l (k + 1) = 34
              · rw [x34] at g2
                clear x34 c117 f0 hc
                go_wp2
                go_round
                case rel => exact ⟨k + 2, by omega, by omega, by go_num, H2⟩
                case measure => simp [intOf]; omega
              replace x34 := ne_beq x34
              by_cases x92 : Bt l (k + 1) = 92
              · rw [x92] at g2
                clear x92 c117 f0 hc
                go_wp2
                go_round
                case rel => exact ⟨k + 2, by omega, by omega, by go_num, H2⟩
                case measure => simp [intOf]; omega
              replace x92 := ne_beq x92
              by_cases x47 : Bt l (k + 1) = 47
              · rw [x47] at g2
                clear x47 c117 f0 hc
                go_wp2
                go_round
                case rel => exact ⟨k + 2, by omega, by omega, by go_num, H2⟩
                case measure => simp [intOf]; omega
              replace x47 := ne_beq x47
              by_cases x98 : Bt l (k + 1) = 98
              · rw [x98] at g2
                clear x98 c117 f0 hc
                go_wp2
                go_round
                case rel => exact ⟨k + 2, by omega, by omega, by go_num, H2⟩
                case measure => simp [intOf]; omega
              replace x98 := ne_beq x98
              by_cases x102 : Bt l (k + 1) = 102
              · rw [x102] at g2
                clear x102 c117 f0 hc
                go_wp2
                go_round
                case rel => exact ⟨k + 2, by omega, by omega, by go_num, H2⟩
                case measure => simp [intOf]; omega
              replace x102 := ne_beq x102
              by_cases x110 : Bt l (k + 1) = 110
              · rw [x110] at g2
                clear x110 c117 f0 hc
                go_wp2
                go_round
                case rel => exact ⟨k + 2, by omega, by omega, by go_num, H2⟩
                case measure => simp [intOf]; omega
              replace x110 := ne_beq x110
              by_cases x114 : Bt l (k + 1) = 114
              · rw [x114] at g2
                clear x114 c117 f0 hc
                go_wp2
                go_round
                case rel => exact ⟨k + 2, by omega, by omega, by go_num, H2⟩
                case measure => simp [intOf]; omega
              replace x114 := ne_beq x114
              by_cases x116 : Bt l (k + 1) = 116
              · rw [x116] at g2
                clear x116 c117 f0 hc
                go_wp2
                go_round
                case rel => exact ⟨k + 2, by omega, by omega, by go_num, H2⟩
                case measure => simp [intOf]; omega
              replace x116 := ne_beq x116
              clear H2 c117 hc
              go_wp2
              go_ret
              exact ⟨rfl, .inl rfl⟩
          · have hk1' : (n : Int) ≤ (k : Int) + 1 := by omega
            clear hc hsc c34 c92 c32
            go_wp2
            go_ret
            exact ⟨rfl, .inl rfl⟩
        · have e1 := ne_beq c34
          have e2 : (Bt l k != 92) = true := by simpa using c92
          have H1 : Hid (∀ e, Sc l (k + 1) e → Sc l (i + 1) e) := fun e h => hsc.out e (Sc.skip1 c34 c92 h)
          clear hsc hc c34 c92
          go_wp2
          go_round
          case rel => exact ⟨k + 1, by omega, by omega, by go_num, H1⟩
          case measure => simp [intOf]; omega
      · clear hc hsc
        go_wp2
        go_ret
        exact ⟨rfl, .inl rfl⟩
  · have e1 : (Bt l i != 34) = true := by simpa using h34
    clear hc h34
    go_enter Trym.func26, Trym.ntmps26
    go_wp2
    go_ret
    exact ⟨rfl, .inl rfl⟩

end Go.Proofs.Qxb6601466aMods.Kp
