/-
  WALKS of seat b6601466aM: space, literal.
-/
import Derived.Test.Qxb6601466aModsWalkE
namespace Go.Proofs.Qxb6601466aMods.Kp
open Go.RowKit
set_option linter.unusedVariables false

/-- wr is w but for the walker's position (cell 1 of block g), which is p; and draws. -/
structure Pos (w wr : World) (g p : Nat) : Prop where
  here : wr.cell? ⟨g, 1, none⟩ = some (.int .i64 p)
  free : wr.frozen? ⟨g, 1, none⟩ = false
  data : wr.cell? ⟨g, 0, none⟩ = w.cell? ⟨g, 0, none⟩
  rest : ∀ b o, b ≠ g → wr.cell? ⟨b, o, none⟩ = w.cell? ⟨b, o, none⟩
  bel : Below g w wr

theorem Pos.refl {w : World} {g p : Nat} (h : w.cell? ⟨g, 1, none⟩ = some (.int .i64 p)) (hf : w.frozen? ⟨g, 1, none⟩ = false) : Pos w w g p := ⟨h, hf, rfl, fun _ _ _ => rfl, Below.refl _ _⟩
theorem Pos.drewN {w wr : World} {g p : Nat} (h : Pos w wr g p) (q : Nat) : Pos w (wr.drewN q) g p := ⟨h.here, h.free, h.data, h.rest, below_drewN h.bel q⟩
theorem Pos.set {w wr : World} {g p : Nat} (h : Pos w wr g p) (p' : Nat) : Pos w (wr.setCell ⟨g, 1, none⟩ (.int .i64 (p' : Int))) g p' :=
  ⟨by have := h.here; go_simp, by have := h.free; go_simp, by have := h.data; rw [← this]; go_simp, fun b o hb => by rw [← h.rest b o hb]; go_simp, h.bel.setCell (Nat.le_refl _) _⟩
theorem Pos.trans {w w1 w2 : World} {g p p' : Nat} (h : Pos w w1 g p) (k : Pos w1 w2 g p') : Pos w w2 g p' :=
  ⟨k.here, k.free, k.data.trans h.data, fun b o hb => (k.rest b o hb).trans (h.rest b o hb), h.bel.trans k.bel⟩
theorem Pos.view {w wr : World} {g p b off n : Nat} {l : List Int} (h : Pos w wr g p) (hb : b ≠ g) (hv : View w (some ⟨b, off, none⟩) n l) : View wr (some ⟨b, off, none⟩) n l :=
  ⟨hv.1, hv.2.1, fun i hi => by
    obtain ⟨b', off', e, hc⟩ := hv.2.2 i hi
    simp only [Option.some.injEq, Addr.mk.injEq, and_true] at e
    obtain ⟨rfl, rfl⟩ := e
    exact ⟨b, off, rfl, (h.rest _ _ hb).trans hc⟩⟩

theorem isspace36' (c : Int) (w : World) : Calls Trym.prog 36 #[.int .u8 c] w fun e w' => e = .returned (.bool (wsB c)) ∧ w' = w := (isspace36 c w).mono fun _ _ h => ⟨h.1, h.2.symm⟩
theorem ends37' (c : Int) (w : World) : Calls Trym.prog 37 #[.int .u8 c] w fun e w' => e = .returned (.bool (endsB c)) ∧ w' = w := (ends37 c w).mono fun _ _ h => ⟨h.1, h.2.symm⟩

/-- The position that lies in block g. -/
def posOf (w : World) (g : Nat) : Nat := match w.cell? ⟨g, 1, none⟩ with
  | some (.int _ z) => z.toNat
  | _ => 0
theorem posOf_eq {w : World} {g p : Nat} (h : w.cell? ⟨g, 1, none⟩ = some (.int .i64 p)) : posOf w g = p := by simp [posOf, h]

theorem lt_meas {a b n k k' : Nat} (h1 : a = k) (h2 : b = k') (h3 : k < k') (h : k < n) : n - b < n - a := by omega

set_option maxHeartbeats 1000000 in
/-- space: the position moves to where the white space ends. -/
theorem space34 (g b off n cap p : Nat) (l : List Int) (w : World) (hn : n ≤ 1099511627776) (hp0 : p ≤ n)
    (hd : w.cell? ⟨g, 0, none⟩ = some (.slice (some ⟨b, off, none⟩) n cap)) (hp : w.cell? ⟨g, 1, none⟩ = some (.int .i64 p)) (hf : w.frozen? ⟨g, 1, none⟩ = false) (hgb : b ≠ g)
    (hv : View w (some ⟨b, off, none⟩) n l) :
    Calls Trym.prog 34 #[.pointer (some ⟨g, 0, none⟩)] w fun e w' => e = .returned (.tuple #[]) ∧ ∃ q, WS l p q ∧ Pos w w' g q := by
  have hl := hv.1
  go_enter Trym.func34, Trym.ntmps34
  go_wp2
  go_loopw [] (fun wr => ∃ k : Nat, p ≤ k ∧ k ≤ n ∧ Pos w wr g k ∧ Hid (∀ m, p ≤ m → m < k → wsB (Bt l m) = true)) (fun wr => n - posOf wr g)
  case atStart => exact ⟨p, Nat.le_refl _, hp0, Pos.refl hp hf, fun m h1 h2 => by omega⟩
  case round =>
    obtain ⟨k, hk, hkn, hP, hall⟩ := hrel
    have c0 := hP.data.trans hd
    have c1 := hP.here
    have c2 := hP.free
    by_cases hlt : k < n
    · have g1 : wr.cell? ⟨b, off + k, none⟩ = some (.int .u8 (Bt l k)) := by
        obtain ⟨b', off', e, hc⟩ := (hP.view hgb hv).cells (by omega)
        simp only [Option.some.injEq, Addr.mk.injEq, and_true] at e
        obtain ⟨rfl, rfl⟩ := e
        exact hc k hlt
      have hlt' : (k : Int) < (n : Int) := by omega
      have hm := posOf_eq c1
      have HM : Hid (posOf wr g = k) := hm
      clear hm
      cases hw : wsB (Bt l k) with
      | true =>
        have hall' : Hid (∀ m, p ≤ m → m < k + 1 → wsB (Bt l m) = true) := fun m h1 h2 => by
          by_cases e : m = k
          · subst e; exact hw
          · exact hall.out m h1 (by omega)
        have HP : Hid (Pos w wr g k) := hP
        clear hall hv hP hd hp hf
        go_wp2
        go_quiet ((go_at_call 36; exact Calls.quiet_of_same (isspace36' _ _)))
        go_wp2
        go_roundw
        case rel => exact ⟨k + 1, by omega, by omega, (HP.out.set (k + 1)).drewN _, hall'⟩
        case measure => exact lt_meas HM.out (posOf_eq (by exact ((HP.out.set (k + 1)).drewN _).here)) (by omega) hlt
      | false =>
        have hend : Hid (WS l p k) := ⟨hk, by omega, hall.out, fun _ => hw⟩
        have HP : Hid (Pos w wr g k) := hP
        clear hall hv hP hd hp hf
        go_wp2
        go_quiet ((go_at_call 36; exact Calls.quiet_of_same (isspace36' _ _)))
        go_wp2
        go_end0
        exact ⟨rfl, k, hend.out, HP.out.drewN _⟩
    · have hdd : decide ((k : Int) < (n : Int)) = false := decide_eq_false (by omega)
      have hend : Hid (WS l p k) := ⟨hk, by omega, hall.out, fun _ => by omega⟩
      have HP : Hid (Pos w wr g k) := hP
      clear hall hv hP hd hp hf
      go_wp2
      go_quiet (fail)
      go_wp2
      go_end0
      exact ⟨rfl, k, hend.out, HP.out.drewN _⟩

set_option maxHeartbeats 1000000 in
/-- literal: the position moves to the literal's end. -/
theorem literal35 (g b off n cap p r : Nat) (l : List Int) (w : World) (hn : n ≤ 1099511627776) (hcap : n ≤ cap)
    (hd : w.cell? ⟨g, 0, none⟩ = some (.slice (some ⟨b, off, none⟩) n cap)) (hp : w.cell? ⟨g, 1, none⟩ = some (.int .i64 p)) (hf : w.frozen? ⟨g, 1, none⟩ = false) (hgb : b ≠ g)
    (hv : View w (some ⟨b, off, none⟩) n l) (hlit : LitTo l p r) (hend : End l r) :
    Calls Trym.prog 35 #[.pointer (some ⟨g, 0, none⟩)] w fun e w' => (∃ v, e = .returned v) ∧ Pos w w' g r := by
  have hl := hv.1
  have hpr := hlit.1
  have hrn := hlit.2.1
  have HL : Hid (LitTo l p r ∧ End l r) := ⟨hlit, hend⟩
  clear hlit hend
  go_enter Trym.func35, Trym.ntmps35
  go_wp2
  go_loopw [] (fun wr => ∃ k : Nat, p ≤ k ∧ k ≤ r ∧ Pos w wr g k) (fun wr => r - posOf wr g)
  case atStart => exact ⟨p, Nat.le_refl _, by omega, Pos.refl hp hf⟩
  case round =>
    obtain ⟨k, hk, hkr, hP⟩ := hrel
    have c0 := hP.data.trans hd
    have c1 := hP.here
    have c2 := hP.free
    have HM : Hid (posOf wr g = k) := posOf_eq c1
    by_cases hkr' : k < r
    · have hlt : k < n := by omega
      have g1 : wr.cell? ⟨b, off + k, none⟩ = some (.int .u8 (Bt l k)) := by
        obtain ⟨b', off', e, hc⟩ := (hP.view hgb hv).cells (by omega)
        simp only [Option.some.injEq, Addr.mk.injEq, and_true] at e
        obtain ⟨rfl, rfl⟩ := e
        exact hc k hlt
      have hlt' : (k : Int) < (n : Int) := by omega
      have hen : endsB (Bt l k) = false := (HL.out.1.2.2 k hk hkr').ends
      have HP : Hid (Pos w wr g k) := hP
      clear hv hP hd hp hf
      go_wp2
      go_quiet ((go_at_call 37; exact Calls.quiet_of_same (ends37' _ _)))
      go_wp2
      go_roundw
      case rel => exact ⟨k + 1, by omega, by omega, (HP.out.set (k + 1)).drewN _⟩
      case measure => exact lt_meas HM.out (posOf_eq (by exact ((HP.out.set (k + 1)).drewN _).here)) (by omega) hkr'
    · obtain rfl : k = r := by omega
      by_cases hlt : k < n
      · have g1 : wr.cell? ⟨b, off + k, none⟩ = some (.int .u8 (Bt l k)) := by
          obtain ⟨b', off', e, hc⟩ := (hP.view hgb hv).cells (by omega)
          simp only [Option.some.injEq, Addr.mk.injEq, and_true] at e
          obtain ⟨rfl, rfl⟩ := e
          exact hc k hlt
        have hlt' : (k : Int) < (n : Int) := by omega
        have hen : endsB (Bt l k) = true := by rcases HL.out.2 with h | h; (· omega); exact h
        have HP : Hid (Pos w wr g k) := hP
        have hc1 : ¬ cap = p := by omega
        clear hv hP hd hp hf
        go_wp2
        go_quiet ((go_at_call 37; exact Calls.quiet_of_same (ends37' _ _)))
        go_wp2
        go_quiet (fail)
        go_wp2
        go_ret
        exact ⟨⟨_, rfl⟩, (HP.out.drewN _).drewN _⟩
      · have hdd : decide ((k : Int) < (n : Int)) = false := decide_eq_false (by omega)
        have HP : Hid (Pos w wr g k) := hP
        have hc1 : ¬ cap = p := by omega
        clear hv hP hd hp hf
        go_wp2
        go_quiet (fail)
        go_wp2
        go_quiet (fail)
        go_wp2
        go_ret
        exact ⟨⟨_, rfl⟩, (HP.out.drewN _).drewN _⟩

end Go.Proofs.Qxb6601466aMods.Kp
