/-
  WALKS of seat b6601466aM: zzStrClose; the law FnStrStopsAtFirstUnescapedQuote.
-/
import Derived.Test.Qxb6601466aModsWalkB
namespace Go.Proofs.Qxb6601466aMods.Kp
open Go.RowKit
set_option linter.unusedVariables false

set_option maxHeartbeats 1000000 in
/-- zzStrClose: -1, or the place where the scan ends. -/
theorem close_any (b off n cap s : Nat) (sz : Int) (hsz : sz = s) (hs1 : 1 ≤ s) (l : List Int) (w : World) (hn : n ≤ 1099511627776) (hv : View w (some ⟨b, off, none⟩) n l) :
    Calls Trym.prog 22 #[.slice (some ⟨b, off, none⟩) n cap, .int .i64 sz] w fun e w' => w = w' ∧ (e = .returned (.int .i64 (-1)) ∨ ∃ j : Nat, e = .returned (.int .i64 j) ∧ s ≤ j ∧ Sc l s j) := by
  subst hsz
  have hl := hv.1
  by_cases hsn : n ≤ s
  · go_enter Trym.func22, Trym.ntmps22
    go_wp2
    refine wp_loop_rounds 1 ?_
    rw [rounds_succ]
    go_wp2
    go_ret
    exact ⟨rfl, .inl rfl⟩
  obtain ⟨b', off', e, hc⟩ := hv.cells (by omega)
  simp only [Option.some.injEq, Addr.mk.injEq, and_true] at e
  obtain ⟨rfl, rfl⟩ := e
  clear hv
  go_enter Trym.func22, Trym.ntmps22
  go_wp2
  go_loop [5] (fun i => ∃ k : Nat, s ≤ k ∧ k ≤ n ∧ i = .int .i64 k ∧ Hid (∀ i, s ≤ i → i < k → ¬ Closes l s i)) (fun i => n - (intOf i).toNat)
  case atStart => exact ⟨s, Nat.le_refl _, by omega, rfl, fun i h1 h2 => by omega⟩
  case round =>
    obtain ⟨k, hk, hkn, rfl, hmin⟩ := hrel
    by_cases hlt : k < n
    · have g1 := hc k hlt
      have hlt' : (k : Int) < (n : Int) := by omega
      by_cases h34 : Bt l k = 34
      · have e1 : (Bt l k != 34) = false := by simpa using h34
        have H34 : Hid (Bt l k = 34) := h34
        clear h34
        go_wp2
        go_loop [6, 7] (fun r m => ∃ r' m' : Nat, r = .int .i64 r' ∧ m = .int .i64 m' ∧ m' + r' + 1 ≤ k ∧ k ≤ m' + r' + 1 ∧ s ≤ m' + 1 ∧ Hid (r' + run l s (m' + 1) = run l s k)) (fun _ m => (intOf m).toNat)
        case atStart => exact ⟨0, k - 1, rfl, by go_num, by omega, by omega, by omega, by show 0 + _ = _; rw [Nat.sub_add_cancel (by omega), Nat.zero_add]⟩
        case round =>
          obtain ⟨r, m, rfl, rfl, hm1, hm2, hsm, hr⟩ := hrel
          by_cases hsm' : s ≤ m
          · have g2 := hc m (by omega)
            have hmn : (m : Int) < (n : Int) := by omega
            by_cases h92 : Bt l m = 92
            · have e2 : (Bt l m == 92) = true := by simpa using h92
              have hr' : Hid (r + 1 + run l s (m - 1 + 1) = run l s k) := by
                have := hr.out
                rw [run_yes hsm' h92] at this
                show r + 1 + run l s (m - 1 + 1) = run l s k
                rw [Nat.sub_add_cancel (by omega)]
                omega
              clear hr hc h92 hmin
              go_wp2
              go_round
              case rel => exact ⟨r + 1, m - 1, by go_num, by go_num, by omega, by omega, by omega, hr'⟩
              case measure => simp [intOf]; omega
            · have e2 : (Bt l m == 92) = false := by simpa using h92
              have hr' : Hid (r = run l s k) := by
                have := hr.out
                rw [run_no (by simp [h92])] at this
                exact this
              clear hr hc
              by_cases hev : r % 2 = 0
              · have hcl : Closes l s k := ⟨H34.out, by rw [← hr'.out]; exact hev⟩
                have hev' : ((r : Int) % 2 == 0) = true := by simp; omega
                go_wp2
                go_ret
                exact ⟨rfl, .inr ⟨k, rfl, hk, sc_of_first hk (by omega) hcl hmin.out⟩⟩
              · have hncl : ¬ Closes l s k := fun h => hev (by rw [hr'.out]; exact h.2)
                have hmin' : Hid (∀ i, s ≤ i → i < k + 1 → ¬ Closes l s i) := fun i h1 h2 => by
                  by_cases e : i = k
                  · subst e; exact hncl
                  · exact hmin.out i h1 (by omega)
                have hev' : ((r : Int) % 2 == 0) = false := by simp; omega
                clear hmin hncl hr'
                go_wp2
                go_round
                case rel => exact ⟨k + 1, by omega, by omega, by go_num, hmin'⟩
                case measure => simp [intOf]; omega
          · have hr' : Hid (r = run l s k) := by
              have := hr.out
              rw [show m + 1 = s by omega, run_start] at this
              exact this
            have hsm2 : decide ((s : Int) ≤ (m : Int)) = false := decide_eq_false (by omega)
            clear hr hc
            by_cases hev : r % 2 = 0
            · have hcl : Closes l s k := ⟨H34.out, by rw [← hr'.out]; exact hev⟩
              have hev' : ((r : Int) % 2 == 0) = true := by simp; omega
              go_wp2
              go_ret
              exact ⟨rfl, .inr ⟨k, rfl, hk, sc_of_first hk (by omega) hcl hmin.out⟩⟩
            · have hncl : ¬ Closes l s k := fun h => hev (by rw [hr'.out]; exact h.2)
              have hmin' : Hid (∀ i, s ≤ i → i < k + 1 → ¬ Closes l s i) := fun i h1 h2 => by
                by_cases e : i = k
                · subst e; exact hncl
                · exact hmin.out i h1 (by omega)
              have hev' : ((r : Int) % 2 == 0) = false := by simp; omega
              clear hmin hncl hr'
              go_wp2
              go_round
              case rel => exact ⟨k + 1, by omega, by omega, by go_num, hmin'⟩
              case measure => simp [intOf]; omega
      · have e1 : (Bt l k != 34) = true := by simpa using h34
        have hmin' : Hid (∀ i, s ≤ i → i < k + 1 → ¬ Closes l s i) := fun i h1 h2 => by
          by_cases e : i = k
          · subst e; exact fun h => h34 h.1
          · exact hmin.out i h1 (by omega)
        clear hmin hc h34
        go_wp2
        go_round
        case rel => exact ⟨k + 1, by omega, by omega, by go_num, hmin'⟩
        case measure => simp [intOf]; omega
    · clear hc hmin
      go_wp2
      go_ret
      exact ⟨rfl, .inl rfl⟩

theorem bytes21_yes (a : Option Addr) (n ca : Nat) (z : Int) (w : World) (h : n ≤ 1048576) :
    Calls Trym.prog 21 #[.slice a n ca, .int .i64 z] w fun e w' => e = .returned (.bool true) ∧ w = w' := by
  have h1 : ¬ (1048576 : Int) < (n : Int) := by omega
  go_enter Trym.func21, Trym.ntmps21
  go_wp2
  go_ret
  exact ⟨rfl, rfl⟩

theorem bytes21_no (a : Option Addr) (n ca : Nat) (z : Int) (w : World) (h : ¬ n ≤ 1048576) :
    Calls Trym.prog 21 #[.slice a n ca, .int .i64 z] w fun e w' => e = .returned (.bool false) ∧ w = w' := by
  have h1 : (1048576 : Int) < (n : Int) := by omega
  go_enter Trym.func21, Trym.ntmps21
  go_wp2
  go_ret
  exact ⟨rfl, rfl⟩

set_option maxHeartbeats 1000000 in
theorem law6 (a : Option Addr) (n ca : Nat) (z : Int) (l : List Int) (w : World) (ha : View w a n l) (na : a = none → n = 0 ∧ ca = 0) :
    Calls Trym.prog 6 #[.slice a n ca, .int .i64 z] w fun e w' => e = .returned (.bool true) ∧ Below w.heap.size w w' := by
  have hla := ha.1
  by_cases hs : n ≤ 1048576
  · have d1 : ¬ (1048576 : Int) < (n : Int) := by omega
    by_cases hz0 : z < 0
    · go_enter Trym.func6, Trym.ntmps6
      go_wp2_with (go_at_call 21; refine (bytes21_yes _ _ _ _ _ hs).mono ?_; rintro e w' ⟨rfl, rfl⟩)
      go_ret
      exact ⟨rfl, Below.refl _ _⟩
    · obtain ⟨p, rfl⟩ := Int.eq_ofNat_of_zero_le (show 0 ≤ z by omega)
      by_cases hzn : (n : Int) ≤ (p : Int)
      · go_enter Trym.func6, Trym.ntmps6
        go_wp2_with (go_at_call 21; refine (bytes21_yes _ _ _ _ _ hs).mono ?_; rintro e w' ⟨rfl, rfl⟩)
        go_ret
        exact ⟨rfl, Below.refl _ _⟩
      · go_enter Trym.func6, Trym.ntmps6
        go_wp2_with (go_at_call 21; refine (bytes21_yes _ _ _ _ _ hs).mono ?_; rintro e w' ⟨rfl, rfl⟩)
        refine (copy_any a n ca l _ (by omega) (by exact ha) na).mono ?_
        rintro e w1 ⟨v0, rfl, ho0, hb0⟩
        obtain ⟨g, cap, hu, hV, hcap, _, hg1, hg2⟩ := ho0.shape' (by omega)
        rw [hla] at hu hV hcap
        subst hu
        clear ha na ho0 hg1
        go_wp2_with fail
        refine (close_any g 0 n cap (p + 1) _ (by omega) (by omega) l _ (by omega) (by exact hV)).mono ?_
        rintro e w2 ⟨rfl, hr⟩
        rcases hr with rfl | ⟨j, rfl, hj, hsc⟩
        · clear hV
          go_wp2
          go_ret
          exact ⟨rfl, hb0⟩
        · have hjl := hsc.lt
          have hj0 : ¬ (j : Int) < 0 := by omega
          go_wp2_with fail
          refine (zzstr_any g 0 n cap p j _ rfl l _ (by omega) hcap (by exact hV) hsc).mono ?_
          rintro e w3 ⟨rfl, hb3⟩
          have hVt := hV.part (p + 1) j hj (by omega)
          have hVt' := hVt.below hb3
          have hc2 : ¬ cap = p + 1 := by omega
          have hbw : Below w.heap.size w w3 := hb0.trans (hb3.mono hb0.size)
          clear hV hVt hsc hb0 hb3
          rw [Nat.zero_add] at hVt'
          go_wp2_with fail
          refine (same_true _ _ _ (cap - (p + 1)) (cap - (p + 1)) _ w3 (by omega) (by exact hVt') (by exact hVt')).mono ?_
          rintro e w4 ⟨rfl, q, rfl⟩
          go_wp2
          go_ret
          exact ⟨rfl, below_drewN hbw _⟩
  · go_enter Trym.func6, Trym.ntmps6
    go_wp2_with (go_at_call 21; refine (bytes21_no _ _ _ _ _ hs).mono ?_; rintro e w' ⟨rfl, rfl⟩)
    go_ret
    exact ⟨rfl, Below.refl _ _⟩

end Go.Proofs.Qxb6601466aMods.Kp
