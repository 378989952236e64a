/-
  WALKS of seat b6601466aM: zzMember, zzHasAt.
-/
import Derived.Test.Qxb6601466aModsWalkF
namespace Go.Proofs.Qxb6601466aMods.Kp
open Go.RowKit
set_option linter.unusedVariables false

set_option maxHeartbeats 400000 in
/-- zzMember: -1, or where the member's value begins. -/
theorem member25 (b off n cap i : Nat) (iz : Int) (hiz : iz = i) (l : List Int) (w : World) (hn : n ≤ 1099511627776) (hi : i ≤ n) (hv : View w (some ⟨b, off, none⟩) n l) :
    Calls Trym.prog 25 #[.slice (some ⟨b, off, none⟩) n cap, .int .i64 iz] w fun e w' => w = w' ∧ (e = .returned (.int .i64 (-1)) ∨ ∃ r : Nat, e = .returned (.int .i64 r) ∧ Mem l i r) := by
  subst hiz
  have hl := hv.1
  go_enter Trym.func25, Trym.ntmps25
  go_wp2_with fail
  refine (strend26 b off n cap i _ rfl l _ hn hi (by exact hv)).mono ?_
  rintro e w1 ⟨rfl, rfl | ⟨j, rfl, hin, h34, hsc⟩⟩
  · clear hv
    go_wp2
    go_ret
    exact ⟨rfl, .inl rfl⟩
  · have hjl := hsc.lt
    have HS : Hid (Bt l i = 34 ∧ Sc l (i + 1) j) := ⟨h34, hsc⟩
    have hj0 : ¬ ((j + 1 : Nat) : Int) < 0 := by omega
    have hj1 : ¬ (j : Int) + 1 < 0 := by omega
    clear h34 hsc
    go_wp2_with fail
    refine (ws10 _ n cap (j + 1) _ (by omega) l _ hn (by omega) (by exact hv)).mono ?_
    rintro e w1 ⟨rfl, k, rfl, hws⟩
    have hkl := hws.2.1
    have HW : Hid (WS l (j + 1) k) := hws
    clear hws
    by_cases hk : k < n
    · obtain ⟨b', off', e, hc⟩ := hv.cells (by omega)
      simp only [Option.some.injEq, Addr.mk.injEq, and_true] at e
      obtain ⟨rfl, rfl⟩ := e
      have g1 := hc k hk
      have hk' : (k : Int) < (n : Int) := by omega
      have hkd : decide ((n : Int) ≤ (k : Int)) = false := decide_eq_false (by omega)
      by_cases h58 : Bt l k = 58
      · rw [h58] at g1
        have H58 : Hid (Bt l k = 58) := h58
        clear h58 hc
        go_wp2_with fail
        refine (ws10 _ n cap (k + 1) _ (by omega) l _ hn (by omega) (by exact hv)).mono ?_
        rintro e w1 ⟨rfl, r, rfl, hws⟩
        have hm : Hid (Mem l i r) := ⟨j, k, HS.out.1, HS.out.2, HW.out, by omega, H58.out, hws⟩
        clear hws hv
        go_wp2
        go_ret
        exact ⟨rfl, .inr ⟨r, rfl, hm.out⟩⟩
      · have e1 : (Bt l k != 58) = true := by simpa using h58
        clear hc h58 hv
        go_wp2
        go_ret
        exact ⟨rfl, .inl rfl⟩
    · have hk' : (n : Int) ≤ (k : Int) := by omega
      clear hv
      go_wp2
      go_ret
      exact ⟨rfl, .inl rfl⟩

/-- The byte of a string at place m. -/
def sb (s : ByteArray) (m : Nat) : Int := ((s.data.toList.getD m 0).toNat : Int)
theorem sb_at {s : ByteArray} {m : Nat} (h : m < s.size) : ((s[m].toNat : Nat) : Int) = sb s m := by
  have h' : m < s.data.toList.length := by simpa using h
  unfold sb
  simp only [List.getD, List.getElem?_eq_getElem h', Option.getD_some]
  rfl

set_option maxHeartbeats 400000 in
/-- zzHasAt: whether the string stands at i; where it says yes, it does. -/
theorem hasat32 (b off n cap i : Nat) (iz : Int) (hiz : iz = i) (l : List Int) (s : ByteArray) (hs : s.size ≤ 1000) (w : World) (hn : n ≤ 1099511627776) (hi : i ≤ n) (hv : View w (some ⟨b, off, none⟩) n l) :
    Calls Trym.prog 32 #[.slice (some ⟨b, off, none⟩) n cap, .int .i64 iz, .string s] w fun e w' => ∃ r q, e = .returned (.bool r) ∧ w' = w.drewN q ∧ (r = true → i + s.size ≤ n ∧ ∀ k, k < s.size → Bt l (i + k) = sb s k) := by
  subst hiz
  have hl := hv.1
  have hd : decide ((i : Int) < 0) = false := decide_eq_false (by omega)
  by_cases hin : i + s.size ≤ n
  · have hin' : ¬ (n : Int) < (i : Int) + (s.size : Int) := by omega
    have hind : decide ((n : Int) < (i : Int) + (s.size : Int)) = false := decide_eq_false hin'
    go_enter Trym.func32, Trym.ntmps32
    go_wp2
    go_loopw [7] (fun x wr => ∃ (k q : Nat), k ≤ s.size ∧ x = .int .i64 k ∧ wr = w.drewN q ∧ Hid (∀ m, m < k → Bt l (i + m) = sb s m)) (fun x _ => s.size - (intOf x).toNat)
    case atStart => exact ⟨0, 0, Nat.zero_le _, rfl, rfl, fun m h => by omega⟩
    case round =>
      obtain ⟨k, q, hk, rfl, rfl, hall⟩ := hrel
      by_cases hlt : k < s.size
      · obtain ⟨b', off', e, hc⟩ := hv.cells (by omega)
        simp only [Option.some.injEq, Addr.mk.injEq, and_true] at e
        obtain ⟨rfl, rfl⟩ := e
        have g1 := hc (i + k) (by omega)
        have hlt' : (k : Int) < (s.size : Int) := by omega
        have hik : (i : Int) + (k : Int) < (n : Int) := by omega
        have hsb := sb_at hlt
        have HSB : Hid (((s[k].toNat : Nat) : Int) = sb s k) := hsb
        by_cases he : Bt l (i + k) = sb s k
        · have hall' : Hid (∀ m, m < k + 1 → Bt l (i + m) = sb s m) := fun m h => by
            by_cases e : m = k
            · subst e; exact he
            · exact hall.out m (by omega)
          have hne : (Bt l (i + k) != ((s[k].toNat : Nat) : Int)) = false := by rw [hsb]; simpa using he
          clear hc hv hall hsb he
          go_wp2
          go_quiet (fail)
          go_wp2
          go_roundw
          case rel => exact ⟨k + 1, _, by omega, by go_num, rfl, hall'⟩
          case measure => simp [intOf]; omega
        · have hne : (Bt l (i + k) != ((s[k].toNat : Nat) : Int)) = true := by rw [hsb]; simpa using he
          clear hc hv hall hsb he
          go_wp2
          go_quiet (fail)
          go_wp2
          go_ret
          exact ⟨false, q + nq, rfl, by simp, fun h => by cases h⟩
      · have hall' : ∀ m, m < s.size → Bt l (i + m) = sb s m := fun m h => hall.out m (by omega)
        have HA : Hid (∀ m, m < s.size → Bt l (i + m) = sb s m) := hall'
        clear hv hall hall'
        go_wp2
        go_ret
        exact ⟨true, _, rfl, rfl, fun _ => ⟨hin, HA.out⟩⟩
  · have hin' : (n : Int) < (i : Int) + (s.size : Int) := by omega
    clear hv
    go_enter Trym.func32, Trym.ntmps32
    go_wp2
    go_ret
    exact ⟨false, 0, rfl, rfl, fun h => by cases h⟩

end Go.Proofs.Qxb6601466aMods.Kp
