/-
  WALKS of seat b6601466aM: ZZSkip.
-/
import Derived.Test.Qxb6601466aModsWalkJ
namespace Go.Proofs.Qxb6601466aMods.Kp
open Go.RowKit
set_option linter.unusedVariables false

set_option maxHeartbeats 400000 in
theorem zzskip13 (b off n cap p e0 : Nat) (pz : Int) (hpz : pz = p) (l : List Int) (w : World) (hn : n ≤ 1099511627776) (hcap : n ≤ cap) (hp0 : p ≤ n) (h0 : 0 < n) (hv : View w (some ⟨b, off, none⟩) n l) (hrun : RunE l p 0 e0) :
    Calls Trym.prog 13 #[.slice (some ⟨b, off, none⟩) n cap, .int .i64 pz] w fun e w' => e = .returned (.int .i64 e0) ∧ Below w.heap.size w w' := by
  subst hpz
  have hl := hv.1
  have hbw : b < w.heap.size := by
    obtain ⟨b', off', e, hc⟩ := hv.cells h0
    simp only [Option.some.injEq, Addr.mk.injEq, and_true] at e
    obtain ⟨rfl, rfl⟩ := e
    exact World.block_lt_of_cell? w _ (hc 0 (by omega))
  have hba : Below w.heap.size w (w.alloc (Obj.cells #[Value.slice (some { block := b, off := off }) n cap, Value.int IntKind.i64 (p : Int)] 38)) := (Below.refl w.heap.size w).alloc (Nat.le_refl _) _
  have hv' := hv.below hba
  go_enter Trym.func13, Trym.ntmps13
  go_wp2_with fail
  refine (skip28 w.heap.size b off n cap p e0 l _ hn hcap hp0 (by simp) (by simp) (by simp) (by omega) (by exact hv') hrun).mono ?_
  rintro e w1 ⟨rfl, hP⟩
  have c1 := hP.here
  have hb1 := hba.trans hP.bel
  clear hP hrun hv hv' hba
  go_wp2
  go_ret
  exact ⟨rfl, hb1⟩

end Go.Proofs.Qxb6601466aMods.Kp
