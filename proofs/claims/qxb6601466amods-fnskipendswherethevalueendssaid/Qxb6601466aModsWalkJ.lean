/-
  WALKS of seat b6601466aM: skip, ZZSkip.
-/
import Derived.Test.Qxb6601466aModsWalkI
namespace Go.Proofs.Qxb6601466aMods.Kp
open Go.RowKit
set_option linter.unusedVariables false

theorem WS.unique {l : List Int} {i j k : Nat} (h1 : WS l i j) (h2 : WS l i k) : j = k := by
  rcases Nat.lt_trichotomy j k with h | h | h
  · have a := h2.2.2.1 j h1.1 h
    have b := h1.2.2.2 (by have := h2.2.1; omega)
    rw [a] at b; cases b
  · exact h
  · have a := h1.2.2.1 k h2.1 h
    have b := h2.2.2.2 (by have := h1.2.1; omega)
    rw [a] at b; cases b

set_option maxRecDepth 100000 in
set_option maxHeartbeats 4000000 in
/-- skip: it ends where its machine ends. -/
theorem skip28 (g b off n cap p e0 : Nat) (l : List Int) (w : World) (hn : n ≤ 1099511627776) (hcap : n ≤ cap) (hp0 : p ≤ n)
    (hd : w.cell? ⟨g, 0, none⟩ = some (.slice (some ⟨b, off, none⟩) n cap)) (hp : w.cell? ⟨g, 1, none⟩ = some (.int .i64 p)) (hf : w.frozen? ⟨g, 1, none⟩ = false) (hgb : b ≠ g)
    (hv : View w (some ⟨b, off, none⟩) n l) (hrun : RunE l p 0 e0) :
    Calls Trym.prog 28 #[.pointer (some ⟨g, 0, none⟩)] w fun e w' => e = .returned (.tuple #[]) ∧ Pos w w' g e0 := by
  have hl := hv.1
  have HR : Hid (RunE l p 0 e0) := hrun
  have HV : Hid (View w (some ⟨b, off, none⟩) n l) := hv
  have HD : Hid (w.cell? ⟨g, 0, none⟩ = some (.slice (some ⟨b, off, none⟩) n cap)) := hd
  have HP0 : Hid (Pos w w g p) := Pos.refl hp hf
  clear hrun hv hd hp hf
  go_enter Trym.func28, Trym.ntmps28
  go_wp2_with fail
  go_loopw [2] (fun x wr => ∃ k d : Nat, x = .int .i64 d ∧ k ≤ n ∧ d ≤ k ∧ Hid (Pos w wr g k) ∧ Hid (RunE l k d e0)) (fun _ wr => n - posOf wr g)
  case atStart => exact ⟨p, 0, rfl, hp0, Nat.zero_le _, HP0, HR⟩
  case round =>
    clear HP0 HR
    obtain ⟨k, d, rfl, hkn, hdk, hP, hR⟩ := hrel
    obtain ⟨q, hwsq, hq, hcs⟩ := hR.out.cases
    have HWS : Hid (WS l k q) := hwsq
    have HM : Hid (posOf wr g = k) := posOf_eq hP.out.here
    have hkq : k ≤ q := hwsq.1
    have HCS := show Hid _ from hcs
    clear hwsq hcs hR
    go_wp2_with fail
    refine (space34 g b off n cap k l _ hn hkn (by exact hP.out.data.trans HD.out) (by exact hP.out.here) (by exact hP.out.free) hgb (by exact hP.out.view hgb HV.out)).mono ?_
    rintro e w1 ⟨rfl, q', hws', hP1⟩
    obtain rfl := HWS.out.unique hws'
    have hP1' := hP.out.trans hP1
    have HP1 : Hid (Pos w w1 g q) := hP1'
    have hqn : q < n := by omega
    have hqn' : (q : Int) < (n : Int) := by omega
    have c0 := hP1'.data.trans HD.out
    have c1 := hP1'.here
    have c2 := hP1'.free
    have g1 : w1.cell? ⟨b, off + q, none⟩ = some (.int .u8 (Bt l q)) := by
      obtain ⟨b', off', e, hc⟩ := (hP1'.view hgb HV.out).cells (by omega)
      simp only [Option.some.injEq, Addr.mk.injEq, and_true] at e
      obtain ⟨rfl, rfl⟩ := e
      exact hc q hqn
    clear hP hP1 hws' HWS hP1'
    rcases HCS.out with ⟨hch, hR⟩ | ⟨hch, hd1, hR⟩ | ⟨hch, hR⟩ | ⟨hch, j, hsc, hR⟩ | ⟨r, hlt, hen, hR⟩
    · have HR : Hid (RunE l (q + 1) (d + 1) e0) := hR
      clear hR HCS
      rcases hch with hch | hch
      all_goals
        rw [hch] at g1
        clear hch
        go_wp2_with fail
        go_quiet (fail)
        go_wp2_with fail
        go_roundw
        case rel => exact ⟨q + 1, d + 1, by go_num, by omega, by omega, (HP1.out.drewN _).set (q + 1), HR⟩
        case measure => exact lt_meas HM.out (posOf_eq (by exact ((HP1.out.drewN _).set (q + 1)).here)) (by omega) (by omega)
    · clear HCS
      rcases hR with ⟨hd2, he⟩ | ⟨hd2, hR⟩
      · subst hd2
        subst he
        rcases hch with hch | hch
        all_goals
          rw [hch] at g1
          clear hch
          go_wp2_with fail
          go_quiet (fail)
          go_wp2_with fail
          (try simp only [Exit.inBlock, Exit.then]); refine bodyPost_ret (results_none rfl _ _ _) rfl ?_
          exact ⟨rfl, (HP1.out.drewN _).set (q + 1)⟩
      · have HR : Hid (RunE l (q + 1) (d - 1) e0) := hR
        clear hR
        rcases hch with hch | hch
        all_goals
          rw [hch] at g1
          clear hch
          go_wp2_with fail
          go_quiet (fail)
          go_wp2_with fail
          go_roundw
          case rel => exact ⟨q + 1, d - 1, by go_num, by omega, by omega, (HP1.out.drewN _).set (q + 1), HR⟩
          case measure => exact lt_meas HM.out (posOf_eq (by exact ((HP1.out.drewN _).set (q + 1)).here)) (by omega) (by omega)
    · have HR : Hid (RunE l (q + 1) d e0) := hR
      clear hR HCS
      rcases hch with hch | hch
      all_goals
        rw [hch] at g1
        clear hch
        go_wp2_with fail
        go_quiet (fail)
        go_wp2_with fail
        go_roundw
        case rel => exact ⟨q + 1, d, rfl, by omega, by omega, (HP1.out.drewN _).set (q + 1), HR⟩
        case measure => exact lt_meas HM.out (posOf_eq (by exact ((HP1.out.drewN _).set (q + 1)).here)) (by omega) (by omega)
    · rw [hch] at g1
      have hjl := hsc.lt
      have hj1 := hsc.1
      have HSC : Hid (Sc l (q + 1) j) := hsc
      clear hch HCS hsc
      go_wp2_with fail
      go_quiet (fail)
      go_wp2_with fail
      refine (str_any g b off n cap q j l _ hn hcap (by exact HP1.out.data.trans HD.out) (by exact HP1.out.here) (by exact HP1.out.free) (by omega) (by exact HP1.out.view hgb HV.out) HSC.out).mono ?_
      rintro e w2 ⟨rfl, rfl⟩
      have HP2 : Hid (Pos w _ g (j + 1)) := (HP1.out.drewN nq).set (j + 1)
      rcases hR with ⟨hd2, he⟩ | ⟨hd2, hR⟩
      · subst hd2
        subst he
        go_wp2_with fail
        (try simp only [Exit.inBlock, Exit.then]); refine bodyPost_ret (results_none rfl _ _ _) rfl ?_
        exact ⟨rfl, HP2.out⟩
      · have HR : Hid (RunE l (j + 1) d e0) := hR
        have hd3 : ((d : Int) == 0) = false := by simp; omega
        clear hR
        go_wp2_with fail
        go_roundw
        case rel => exact ⟨j + 1, d, rfl, by omega, by omega, HP2, HR⟩
        case measure => exact lt_meas HM.out (posOf_eq (by exact HP2.out.here)) (by omega) (by omega)
    · have hlc := hlt.2.2 q (Nat.le_refl _) hlt.1
      have hqr := hlt.1
      have hrn := hlt.2.1
      have HL : Hid (LitTo l q r ∧ End l r) := ⟨hlt, hen⟩
      unfold Lc at hlc
      have x1 := ne_beq hlc.1
      have x2 := ne_beq hlc.2.1
      have x3 := ne_beq hlc.2.2.1
      have x4 := ne_beq hlc.2.2.2.1
      have x5 := ne_beq hlc.2.2.2.2.1
      have x6 := ne_beq hlc.2.2.2.2.2.1
      have x7 := ne_beq hlc.2.2.2.2.2.2.1
      clear hlt hen hlc HCS
      go_wp2_with fail
      go_quiet (fail)
      go_wp2_with fail
      refine (literal35 g b off n cap q r l _ hn hcap (by exact HP1.out.data.trans HD.out) (by exact HP1.out.here) (by exact HP1.out.free) hgb (by exact HP1.out.view hgb HV.out) HL.out.1 HL.out.2).mono ?_
      rintro e w2 ⟨⟨v, rfl⟩, hP2⟩
      have HP2 : Hid (Pos w w2 g r) := (HP1.out.drewN nq).trans hP2
      clear hP2
      rcases hR with ⟨hd2, he⟩ | ⟨hd2, hR⟩
      · subst hd2
        subst he
        go_wp2_with fail
        (try simp only [Exit.inBlock, Exit.then]); refine bodyPost_ret (results_none rfl _ _ _) rfl ?_
        exact ⟨rfl, HP2.out⟩
      · have HR : Hid (RunE l r d e0) := hR
        have hd3 : ((d : Int) == 0) = false := by simp; omega
        clear hR
        go_wp2_with fail
        go_roundw
        case rel => exact ⟨r, d, rfl, by omega, by omega, HP2, HR⟩
        case measure => exact lt_meas HM.out (posOf_eq (by exact HP2.out.here)) (by omega) (by omega)

end Go.Proofs.Qxb6601466aMods.Kp
