/-
  WALKS of seat b6601466aM: str, ZZStr.
-/
import Derived.Test.Qxb6601466aModsWalkA
namespace Go.Proofs.Qxb6601466aMods.Kp
open Go.RowKit
set_option linter.unusedVariables false

set_option maxHeartbeats 400000 in
/-- str, at a string whose scan ends at j. -/
theorem str_any (g b off n cap p j : Nat) (l : List Int) (w : World) (hn : n ≤ 1099511627776) (hcap : n ≤ cap)
    (hd : w.cell? ⟨g, 0, none⟩ = some (.slice (some ⟨b, off, none⟩) n cap)) (hp : w.cell? ⟨g, 1, none⟩ = some (.int .i64 p)) (hf : w.frozen? ⟨g, 1, none⟩ = false) (hgb : g ≠ b)
    (hv : View w (some ⟨b, off, none⟩) n l) (hs : Sc l (p + 1) j) :
    Calls Trym.prog 30 #[.pointer (some ⟨g, 0, none⟩)] w fun e w' => e = .returned (.slice (some ⟨b, off + (p + 1), none⟩) (j - (p + 1)) (cap - (p + 1))) ∧ w' = w.setCell ⟨g, 1, none⟩ (.int .i64 ((j + 1 : Nat) : Int)) := by
  have hl := hv.1
  have hjl := hs.lt
  have hpj := hs.1
  obtain ⟨b', off', e, hc⟩ := hv.cells (by omega)
  simp only [Option.some.injEq, Addr.mk.injEq, and_true] at e
  obtain ⟨rfl, rfl⟩ := e
  have hby := hv.2.1
  have HS : Hid (Sc l (p + 1) j) := hs
  clear hs hv
  go_enter Trym.func30, Trym.ntmps30
  go_wp2
  go_loop [4] (fun i => ∃ k : Nat, p + 1 ≤ k ∧ i = .int .i64 k ∧ Hid (Sc l k j)) (fun i => n - (intOf i).toNat)
  case atStart => exact ⟨p + 1, Nat.le_refl _, by go_num, HS⟩
  case round =>
    obtain ⟨k, hk, rfl, hsk⟩ := hrel
    have h1 := hsk.out.1
    have hcs := hsk.out.cases
    have g1 := hc k (by omega)
    have hkn : (k : Int) < (n : Int) := by omega
    clear hc HS
    rcases hcs with ⟨h34, rfl⟩ | ⟨h34, h92, hj, hs'⟩ | ⟨h34, h92, hj, hs'⟩
    · rw [h34] at g1
      clear h34 hsk
      have hne : ¬ cap = p + 1 := by omega
      go_wp2
      go_ret
      exact ⟨rfl, rfl⟩
    · rw [h92] at g1
      have hs'' : Hid (Sc l (k + 2) j) := hs'
      clear h34 h92 hs' hsk
      go_wp2
      go_round
      case rel => exact ⟨k + 2, by omega, by go_num, hs''⟩
      case measure => simp [intOf]; omega
    · have hs'' : Hid (Sc l (k + 1) j) := hs'
      have e1 : (Bt l k != 34) = true := by simpa using h34
      have e2 : (Bt l k == 92) = false := by simpa using h92
      clear hs' hsk
      go_wp2
      go_round
      case rel => exact ⟨k + 1, by omega, by go_num, hs''⟩
      case measure => simp [intOf]; omega

set_option maxHeartbeats 400000 in
/-- ZZStr, at a string whose scan ends at j: the text between the quotes, and the place past the closing one. -/
theorem zzstr_any (b off n cap p j : Nat) (pz : Int) (hpz : pz = p) (l : List Int) (w : World) (hn : n ≤ 1099511627776) (hcap : n ≤ cap) (hv : View w (some ⟨b, off, none⟩) n l) (hs : Sc l (p + 1) j) :
    Calls Trym.prog 19 #[.slice (some ⟨b, off, none⟩) n cap, .int .i64 pz] w fun e w' => e = .returned (.tuple #[.slice (some ⟨b, off + (p + 1), none⟩) (j - (p + 1)) (cap - (p + 1)), .int .i64 ((j + 1 : Nat) : Int)]) ∧ Below w.heap.size w w' := by
  subst hpz
  have hl := hv.1
  have hjl := hs.lt
  have hpj := hs.1
  have hbw : b < w.heap.size := by
    obtain ⟨b', off', e, hc⟩ := hv.cells (by omega)
    simp only [Option.some.injEq, Addr.mk.injEq, and_true] at e
    obtain ⟨rfl, rfl⟩ := e
    exact World.block_lt_of_cell? w _ (hc 0 (by omega))
  go_enter Trym.func19, Trym.ntmps19
  go_wp2_with fail
  have hv' := hv.below ((Below.refl w.heap.size w).alloc (Nat.le_refl _) (Obj.cells #[Value.slice (some { block := b, off := off }) n cap, Value.int IntKind.i64 (p : Int)] 38))
  refine (str_any w.heap.size b off n cap p j l _ hn hcap (by simp) (by simp) (by simp) (by omega) (by exact hv') hs).mono ?_
  rintro e w1 ⟨rfl, rfl⟩
  clear hv hv' hs
  go_wp2
  go_quiet (fail)
  go_wp2
  go_ret2
  exact ⟨rfl, below_drewN ((Below.refl _ _).alloc (Nat.le_refl _) _) _⟩

end Go.Proofs.Qxb6601466aMods.Kp
