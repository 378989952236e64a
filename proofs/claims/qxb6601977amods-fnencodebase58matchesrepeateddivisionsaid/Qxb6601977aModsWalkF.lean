/-
  WALKS of seat b6601977aM: the law FnEncodeBase58MatchesRepeatedDivision.
-/
import Derived.Test.Qxb6601977aModsWalkE
namespace Go.Proofs.Qxb6601977aMods.Kp
open Go.RowKit
set_option linter.unusedVariables false

/-- A string is its bytes. -/
theorem sl_inj {s t : ByteArray} (h : sl s = sl t) : s = t := by
  have h2 : s.data.toList = t.data.toList := by
    have hlen : s.data.toList.length = t.data.toList.length := by
      have := congrArg List.length h
      simpa [sl] using this
    apply List.ext_getElem hlen
    intro i h1 h2
    have e := congrArg (fun l => l[i]?) h
    simp only [sl, List.getElem?_map, List.getElem?_eq_getElem h1, List.getElem?_eq_getElem h2, Option.map_some, Option.some.injEq] at e
    have e2 : s.data.toList[i].toNat = t.data.toList[i].toNat := by omega
    exact UInt8.toNat_inj.1 e2
  cases s
  cases t
  simp only at h2
  congr 1
  exact Array.toList_inj.1 h2

theorem bytes9_yes (a : Option Addr) (n ca : Nat) (w : World) (h : n ≤ 1048576) :
    Calls Trym.prog 9 #[.slice a n ca] w fun e w' => e = .returned (.bool true) ∧ w = w' := by
  have h1 : ¬ (1048576 : Int) < (n : Int) := by omega
  go_enter Trym.func9, Trym.ntmps9
  go_wp2
  go_ret
  exact ⟨rfl, rfl⟩

theorem bytes9_no (a : Option Addr) (n ca : Nat) (w : World) (h : ¬ n ≤ 1048576) :
    Calls Trym.prog 9 #[.slice a n ca] w fun e w' => e = .returned (.bool false) ∧ w = w' := by
  have h1 : (1048576 : Int) < (n : Int) := by omega
  go_enter Trym.func9, Trym.ntmps9
  go_wp2
  go_ret
  exact ⟨rfl, rfl⟩

set_option maxRecDepth 100000 in
set_option maxHeartbeats 1000000 in
theorem law3 (a : Option Addr) (n ca : Nat) (la : List Int) (w : World) (hn : n ≤ maxLen) (ha : View w a n la) (na : a = none → n = 0 ∧ ca = 0) :
    Calls Trym.prog 3 #[.slice a n ca] w fun e w' => e = .returned (.bool true) ∧ Below w.heap.size w w' := by
  have hla := ha.1
  by_cases hs : n ≤ 1048576
  case neg =>
    go_enter Trym.func3, Trym.ntmps3
    go_wp2_with (go_at_call 9; refine (bytes9_no _ _ _ _ hs).mono ?_; rintro e w' ⟨rfl, rfl⟩)
    go_ret
    exact ⟨rfl, Below.refl _ _⟩
  by_cases hn12 : (4096 : Int) < (n : Int)
  · go_enter Trym.func3, Trym.ntmps3
    go_wp2_with (go_at_call 9; refine (bytes9_yes _ _ _ _ hs).mono ?_; rintro e w' ⟨rfl, rfl⟩)
    go_ret
    exact ⟨rfl, Below.refl _ _⟩
  go_enter Trym.func3, Trym.ntmps3
  go_wp2_with (go_at_call 9; refine (bytes9_yes _ _ _ _ hs).mono ?_; rintro e w' ⟨rfl, rfl⟩)
  refine (copy_any a n ca la _ (by omega) (by exact ha) na).mono ?_
  rintro e w1 ⟨a1, rfl, _, ho1, hb1⟩
  have hV1 := copy_view ho1 hla
  clear ho1 ha na
  go_wp2_with fail
  refine (zz11 a1 n n la _ (by exact hV1) (by omega)).mono ?_
  rintro e w2 ⟨s1, rfl, hs1, hb2⟩
  have hV2 := hV1.below hb2
  have hbw2 : Below w.heap.size w w2 := hb1.trans (hb2.mono hb1.size)
  have HS1 : Hid (sl s1 = (enc [] la).reverse.map al) := hs1
  clear hs1 hV1 hb1 hb2
  go_wp2_with fail
  refine (model12 a1 n n la _ (by exact hV2) (by omega) (Nat.le_refl _) hn).mono ?_
  rintro e w3 ⟨s2, rfl, hs2, hb3⟩
  have hbw3 : Below w.heap.size w w3 := hbw2.trans (hb3.mono hbw2.size)
  have hss : s2 = s1 := sl_inj (hs2.trans HS1.out.symm)
  subst hss
  clear hs2 HS1 hV2 hb3 hbw2
  go_wp2_with fail
  go_ret
  exact ⟨by simp, hbw3⟩

end Go.Proofs.Qxb6601977aMods.Kp
