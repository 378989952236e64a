/-
  WALKS of seat b6601466aM: the law FnSkipEndsWhereTheValueEnds.
-/
import Derived.Test.Qxb6601466aModsWalkL
import Derived.Test.Qxb6601466aModsWalkK
namespace Go.Proofs.Qxb6601466aMods.Kp
open Go.RowKit
set_option linter.unusedVariables false

theorem bytes8_yes (a : Option Addr) (n ca : Nat) (z : Int) (w : World) (h : n ≤ 1048576) :
    Calls Trym.prog 8 #[.slice a n ca, .int .i64 z] w fun e w' => e = .returned (.bool true) ∧ w = w' := by
  have h1 : ¬ (1048576 : Int) < (n : Int) := by omega
  go_enter Trym.func8, Trym.ntmps8
  go_wp2
  go_ret
  exact ⟨rfl, rfl⟩

theorem bytes8_no (a : Option Addr) (n ca : Nat) (z : Int) (w : World) (h : ¬ n ≤ 1048576) :
    Calls Trym.prog 8 #[.slice a n ca, .int .i64 z] w fun e w' => e = .returned (.bool false) ∧ w = w' := by
  have h1 : (1048576 : Int) < (n : Int) := by omega
  go_enter Trym.func8, Trym.ntmps8
  go_wp2
  go_ret
  exact ⟨rfl, rfl⟩

set_option maxRecDepth 100000 in
set_option maxHeartbeats 2000000 in
theorem law3 (a : Option Addr) (n ca : Nat) (z : Int) (l : List Int) (w : World) (ha : View w a n l) (na : a = none → n = 0 ∧ ca = 0) :
    Calls Trym.prog 3 #[.slice a n ca, .int .i64 z] w fun e w' => e = .returned (.bool true) ∧ Below w.heap.size w w' := by
  have hla := ha.1
  by_cases hs : n ≤ 1048576
  case neg =>
    go_enter Trym.func3, Trym.ntmps3
    go_wp2_with (go_at_call 8; refine (bytes8_no _ _ _ _ _ hs).mono ?_; rintro e w' ⟨rfl, rfl⟩)
    go_ret
    exact ⟨rfl, Below.refl _ _⟩
  have d1 : ¬ (1048576 : Int) < (n : Int) := by omega
  by_cases hz0 : z < 0
  · go_enter Trym.func3, Trym.ntmps3
    go_wp2_with (go_at_call 8; refine (bytes8_yes _ _ _ _ _ hs).mono ?_; rintro e w' ⟨rfl, rfl⟩)
    go_ret
    exact ⟨rfl, Below.refl _ _⟩
  have hz0d : decide (z < 0) = false := decide_eq_false hz0
  obtain ⟨p0, rfl⟩ := Int.eq_ofNat_of_zero_le (show 0 ≤ z by omega)
  by_cases hzn : (n : Int) < (p0 : Int)
  · go_enter Trym.func3, Trym.ntmps3
    go_wp2_with (go_at_call 8; refine (bytes8_yes _ _ _ _ _ hs).mono ?_; rintro e w' ⟨rfl, rfl⟩)
    go_ret
    exact ⟨rfl, Below.refl _ _⟩
  have hznd : decide ((n : Int) < (p0 : Int)) = false := decide_eq_false hzn
  go_enter Trym.func3, Trym.ntmps3
  go_wp2_with (go_at_call 8; refine (bytes8_yes _ _ _ _ _ hs).mono ?_; rintro e w' ⟨rfl, rfl⟩)
  refine (copy_any a n ca l _ (by omega) (by exact ha) na).mono ?_
  rintro e w1 ⟨v0, rfl, ho0, hb0⟩
  obtain ⟨ao, cap, hu, hV, hcap, _⟩ := ho0.shape
  rw [hla] at hu hV hcap
  subst hu
  clear ha na ho0
  go_wp2_with fail
  refine (ws10 ao n cap p0 _ rfl l _ (by omega) (by omega) (by exact hV)).mono ?_
  rintro e w1' ⟨rfl, p1, rfl, hws⟩
  have hp1 := hws.2.1
  have HW : Hid (WS l p0 p1) := hws
  clear hws
  by_cases hp1n : p1 < n
  case neg =>
    go_wp2_with fail
    refine (valend11_out ao n cap p1 _ rfl _ (by omega) (by omega)).mono ?_
    rintro e w2 ⟨hb2, rfl⟩
    have hbw : Below w.heap.size w w2 := hb0.trans (hb2.mono hb0.size)
    clear hV
    go_wp2_with fail
    go_ret
    exact ⟨rfl, hbw⟩
  obtain ⟨bb, oo, hao, hcc⟩ := hV.cells (by omega)
  subst hao
  go_wp2_with fail
  refine (valend11 bb oo n cap p1 _ rfl l _ (by omega) hp1n (by exact hV)).mono ?_
  rintro e w2 ⟨hb2, hr⟩
  have hbw2 : Below w.heap.size w w2 := hb0.trans (hb2.mono hb0.size)
  have hV2 := hV.below hb2
  have HC : Hid (∀ i, i < n → w2.cell? ⟨bb, oo + i, none⟩ = some (.int .u8 (Bt l i))) := fun i hi => by
    obtain ⟨b', off', e, hc⟩ := hV2.cells (by omega)
    simp only [Option.some.injEq, Addr.mk.injEq, and_true] at e
    obtain ⟨rfl, rfl⟩ := e
    exact hc i hi
  clear hV hcc hb2 hb0
  rcases hr with rfl | ⟨e0, rfl, hE⟩
  · clear hV2
    go_wp2_with fail
    go_ret
    exact ⟨rfl, hbw2⟩
  have HE : Hid (Ended l p1 e0) := hE
  have he0 := hE.2.1
  have he00 : ¬ (e0 : Int) < 0 := by omega
  have g1 := HC.out p1 hp1n
  have hp1' : (p1 : Int) < (n : Int) := by omega
  clear hE
  by_cases h123 : Bt l p1 = 123
  · have hT : Topc (Bt l p1) := .inl h123
    have HT : Hid (Topc (Bt l p1)) := hT
    have e1 : (Bt l p1 != 123) = false := by simpa using h123
    clear h123 hT
    have hrun : RunE l p0 0 e0 := RunE.ws HW.out (HE.out.2.2 (.inl HT.out))
    go_wp2_with fail
    refine (zzskip13 bb oo n cap p0 e0 _ rfl l _ (by omega) hcap (by omega) (by omega) (by exact hV2) hrun).mono ?_
    rintro e w3 ⟨rfl, hb3⟩
    have hbw3 : Below w.heap.size w w3 := hbw2.trans (hb3.mono hbw2.size)
    clear hrun hV2
    go_wp2_with fail
    go_ret
    exact ⟨rfl, hbw3⟩
  have e1 : (Bt l p1 != 123) = true := by simpa using h123
  by_cases h91 : Bt l p1 = 91
  · have hT : Topc (Bt l p1) := .inr (.inl h91)
    have HT : Hid (Topc (Bt l p1)) := hT
    have e2 : (Bt l p1 != 91) = false := by simpa using h91
    clear h123 h91 hT
    have hrun : RunE l p0 0 e0 := RunE.ws HW.out (HE.out.2.2 (.inl HT.out))
    go_wp2_with fail
    refine (zzskip13 bb oo n cap p0 e0 _ rfl l _ (by omega) hcap (by omega) (by omega) (by exact hV2) hrun).mono ?_
    rintro e w3 ⟨rfl, hb3⟩
    have hbw3 : Below w.heap.size w w3 := hbw2.trans (hb3.mono hbw2.size)
    clear hrun hV2
    go_wp2_with fail
    go_ret
    exact ⟨rfl, hbw3⟩
  have e2 : (Bt l p1 != 91) = true := by simpa using h91
  by_cases h34 : Bt l p1 = 34
  · have hT : Topc (Bt l p1) := .inr (.inr h34)
    have HT : Hid (Topc (Bt l p1)) := hT
    have e3 : (Bt l p1 != 34) = false := by simpa using h34
    clear h123 h91 h34 hT
    have hrun : RunE l p0 0 e0 := RunE.ws HW.out (HE.out.2.2 (.inl HT.out))
    go_wp2_with fail
    refine (zzskip13 bb oo n cap p0 e0 _ rfl l _ (by omega) hcap (by omega) (by omega) (by exact hV2) hrun).mono ?_
    rintro e w3 ⟨rfl, hb3⟩
    have hbw3 : Below w.heap.size w w3 := hbw2.trans (hb3.mono hbw2.size)
    clear hrun hV2
    go_wp2_with fail
    go_ret
    exact ⟨rfl, hbw3⟩
  have e3 : (Bt l p1 != 34) = true := by simpa using h34
  clear h123 h91 h34
  by_cases hen : e0 < n
  case neg =>
    have hend : Hid (End l e0) := .inl (by omega)
    have hend' : decide ((e0 : Int) < (n : Int)) = false := decide_eq_false (by omega)
    have hrun : RunE l p0 0 e0 := RunE.ws HW.out (HE.out.2.2 (.inr hend.out))
    go_wp2_with fail
    refine (zzskip13 bb oo n cap p0 e0 _ rfl l _ (by omega) hcap (by omega) (by omega) (by exact hV2) hrun).mono ?_
    rintro e w3 ⟨rfl, hb3⟩
    have hbw3 : Below w.heap.size w w3 := hbw2.trans (hb3.mono hbw2.size)
    clear hrun hV2
    go_wp2_with fail
    go_ret
    exact ⟨rfl, hbw3⟩
  have hen' : (e0 : Int) < (n : Int) := by omega
  have g2 := HC.out e0 hen
  cases hend : endsB (Bt l e0) with
  | true =>
    have hend' : Hid (End l e0) := .inr hend
    have hrun : RunE l p0 0 e0 := RunE.ws HW.out (HE.out.2.2 (.inr hend'.out))
    go_wp2_with (go_at_call 12; refine (follows12 _ _).mono ?_; rintro e w' ⟨rfl, rfl⟩)
    refine (zzskip13 bb oo n cap p0 e0 _ rfl l _ (by omega) hcap (by omega) (by omega) (by exact hV2) hrun).mono ?_
    rintro e w3 ⟨rfl, hb3⟩
    have hbw3 : Below w.heap.size w w3 := hbw2.trans (hb3.mono hbw2.size)
    clear hrun hV2
    go_wp2_with fail
    go_ret
    exact ⟨rfl, hbw3⟩
  | false =>
    clear hV2
    go_wp2_with (go_at_call 12; refine (follows12 _ _).mono ?_; rintro e w' ⟨rfl, rfl⟩)
    go_ret
    exact ⟨rfl, hbw2⟩

end Go.Proofs.Qxb6601466aMods.Kp
