/-
  WALKS of seat b6601977aM: zzCloneBytes.
-/
import Derived.Test.Qxb6601977aModsProg
import Derived.Test.Qxb6601977aModsBytes
import Derived.WalkSpells
import Derived.Deep.QuietTactic
import Derived.BigQuiet
import Derived.Lib.SliceRun
namespace Go.Proofs.Qxb6601977aMods.Kp
open Go.RowKit
set_option linter.unusedVariables false

theorem info5 : (Trym.prog.info? 5).map (fun i => (i.zero, i.size, i.bytes)) = some (some (.int .u8 0), 1, 1) := by kernel_rfl

/-- A nil slice is empty. -/
def NilZ (ao : Option Addr) (n : Nat) : Prop := ao = none → n = 0
theorem NilZ.zero (ao : Option Addr) : NilZ ao 0 := fun _ => rfl
theorem NilZ.some (x : Addr) (n : Nat) : NilZ (some x) n := fun h => by cases h

set_option maxHeartbeats 400000 in
/-- zzCloneBytes: a new row that reads alike; nil for nil. -/
theorem copy_any (a : Option Addr) (n ca : Nat) (l : List Int) (w : World) (hn : n ≤ 1099511627776) (ha : View w a n l) (hnil : a = none → n = 0 ∧ ca = 0) :
    Calls Trym.prog 10 #[.slice a n ca] w fun e w' => ∃ ao, e = .returned (.slice ao n n) ∧ NilZ ao n ∧ Own w' w.heap.size (.slice ao n n) l ∧ Below w.heap.size w w' := by
  obtain ⟨i5, hi, hz0, hz1, hz2⟩ := info_parts info5
  have hl := ha.1
  have hby := ha.2.1
  cases a with
  | none =>
    obtain ⟨rfl, rfl⟩ := hnil rfl
    obtain rfl : l = [] := List.eq_nil_of_length_eq_zero hl
    have heq := fun w => Lib.run_eql_slice_nil (P := Trym.prog) w 22 5 none 0 0 0 0 Trym.underlying22
    simp at heq
    go_enter Trym.func10, Trym.ntmps10
    go_wp2
    go_ret
    exact ⟨none, rfl, NilZ.zero _, Own.nil _ _, Below.refl _ _⟩
  | some x =>
    have heq := fun w => Lib.run_eql_slice_nil (P := Trym.prog) w 22 5 (some x) n ca 0 0 Trym.underlying22
    simp at heq
    clear hnil
    by_cases h0 : n = 0
    · subst h0
      obtain rfl : l = [] := List.eq_nil_of_length_eq_zero hl
      clear ha hby
      go_enter Trym.func10, Trym.ntmps10
      go_wp2_with (at_make; refine wpList_make_full _ rfl _ _ 22 rfl w.heap.size 5 i5 (.int .u8 0) 1 Trym.underlying22 hi hz0 hz1 _ _ _ _ 0 rfl rfl (by omega) (by omega) (by omega) (by decide) (by omega) ?_)
      intro w1 hown hgrow
      have ho : Own w1 w.heap.size (.slice (some ⟨w.heap.size, 0, none⟩) 0 0) [] := Own.made (n := 0) hown
      have hb : Below w.heap.size w w1 := (Below.refl _ _).grown hgrow (Nat.le_refl _) (by simp)
      clear hown hgrow
      go_wp2
      refine wp_loop_rounds 1 ?_
      rw [rounds_succ]
      go_wp2
      go_ret
      exact ⟨_, rfl, NilZ.zero _, ho, hb⟩
    · obtain ⟨b1, o1, e, hc1⟩ := ha.cells (by omega)
      obtain rfl := Option.some.inj e
      have hb1 : b1 < w.heap.size := World.block_lt_of_cell? w _ (hc1 0 (by omega))
      clear ha e h0
      go_enter Trym.func10, Trym.ntmps10
      go_wp2_with (at_make; refine wpList_make_full _ rfl _ _ 22 rfl w.heap.size 5 i5 (.int .u8 0) 1 Trym.underlying22 hi hz0 hz1 _ _ _ _ n rfl rfl (by omega) (by omega) (by rw [hz2]; omega) (by unfold maxLen; omega) (by omega) ?_)
      intro w1 hown hgrow
      have ho : Own w1 w.heap.size (.slice (some ⟨w.heap.size, 0, none⟩) n n) (l.take 0 ++ List.replicate (n - 0) 0) := (Own.made hown).cast (by simp)
      have hb : Below w.heap.size w w1 := (Below.refl _ _).grown hgrow (Nat.le_refl _) (by simp)
      clear hown hgrow
      have Ho : Hid (Own w1 w.heap.size (.slice (some ⟨w.heap.size, 0, none⟩) n n) (l.take 0 ++ List.replicate (n - 0) 0)) := ho
      clear ho
      go_wp2
      go_loopw [4] (fun i wr => ∃ k : Nat, k ≤ n ∧ i = .int .i64 k ∧ Own wr w.heap.size (.slice (some ⟨w.heap.size, 0, none⟩) n n) (l.take k ++ List.replicate (n - k) 0) ∧ Below w.heap.size w wr) (fun i _ => n - (intOf i).toNat)
      case atStart => exact ⟨0, Nat.zero_le _, rfl, Ho.out, hb⟩
      case round =>
        obtain ⟨k, hk, rfl, hown, hbel⟩ := hrel
        clear Ho hb
        by_cases hlt : k < n
        · have hlen : (l.take k ++ List.replicate (n - k) 0).length = n := by simp; omega
          have g1 : wr.cell? ⟨b1, o1 + k, none⟩ = some (.int .u8 (Bt l k)) := (hbel.cell (p := ⟨b1, o1 + k, none⟩) hb1).trans (hc1 k hlt)
          have g2 := hown.cell hlen k hlt
          have g3 := hown.free hlen k
          have hset := hown.set hlen k (Bt l k) (Byt.at hby k)
          rw [fill_step hl hlt] at hset
          have hbel' := hbel.setCell (p := ⟨w.heap.size, k, none⟩) (Nat.le_refl _) (.int .u8 (Bt l k))
          have hlt' : (k : Int) < (n : Int) := by omega
          clear hc1 hown hbel hlen
          go_wp2
          go_roundw
          case rel => exact ⟨k + 1, by omega, by go_num, hset, hbel'⟩
          case measure => simp [intOf]; omega
        · clear hc1
          obtain rfl : k = n := by omega
          go_wp2
          go_ret
          exact ⟨_, rfl, NilZ.some _ _, hown.cast (by simp; rw [List.take_of_length_le (by omega)]), hbel⟩

end Go.Proofs.Qxb6601977aMods.Kp
