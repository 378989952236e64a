/-
  WALKS of seat b6601998aM: the law FnAppendJSONStringQuotesCanonically.
-/
import Derived.Test.Qxb6601998aModsWalkE
namespace Go.Proofs.Qxb6601998aMods.Kp
open Go.RowKit
set_option linter.unusedVariables false

theorem bt_left {A B : List Int} {i : Nat} (h : i < A.length) : Bt (A ++ B) i = Bt A i := by
  simp [Bt, List.getD, List.getElem?_append_left h]
theorem bt_here {A B : List Int} {x : Int} {i : Nat} (h : A.length = i) : Bt (A ++ x :: B) i = x := by
  subst h; simp [Bt]

theorem bytes16_yes (a : Option Addr) (n ca : Nat) (s : ByteArray) (w : World) (h : n + s.size ≤ 1048576) :
    Calls Trym.prog 16 #[.slice a n ca, .string s] w fun e w' => e = .returned (.bool true) ∧ w = w' := by
  have h1 : ¬ (1048576 : Int) < (n : Int) := by omega
  have h2 : ¬ (1048576 : Int) < (s.size : Int) := by omega
  have h3 : ¬ (1048576 : Int) < (n : Int) + (s.size : Int) := by omega
  go_enter Trym.func16, Trym.ntmps16
  go_wp2
  go_ret
  exact ⟨rfl, rfl⟩

theorem bytes16_no (a : Option Addr) (n ca : Nat) (s : ByteArray) (w : World) (h : ¬ n + s.size ≤ 1048576) (hn : n ≤ maxLen) (hm : s.size ≤ maxLen) :
    Calls Trym.prog 16 #[.slice a n ca, .string s] w fun e w' => e = .returned (.bool false) ∧ w = w' := by
  unfold maxLen at hn hm
  by_cases h1 : (1048576 : Int) < (n : Int)
  · go_enter Trym.func16, Trym.ntmps16
    go_wp2
    go_ret
    exact ⟨rfl, rfl⟩
  · by_cases h2 : (1048576 : Int) < (s.size : Int)
    · go_enter Trym.func16, Trym.ntmps16
      go_wp2
      go_ret
      exact ⟨rfl, rfl⟩
    · have h3 : (1048576 : Int) < (n : Int) + (s.size : Int) := by omega
      go_enter Trym.func16, Trym.ntmps16
      go_wp2
      go_ret
      exact ⟨rfl, rfl⟩

set_option maxRecDepth 100000 in
set_option maxHeartbeats 4000000 in
theorem law5 (a : Option Addr) (n ca : Nat) (l : List Int) (s : ByteArray) (w : World) (hn : n ≤ maxLen) (hs : s.size ≤ maxLen) (ha : View w a n l) (na : a = none → n = 0 ∧ ca = 0) :
    Calls Trym.prog 5 #[.slice a n ca, .string s] w fun e w' => e = .returned (.bool true) ∧ Below w.heap.size w w' := by
  have hla := ha.1
  by_cases hsum : n + s.size ≤ 1048576
  case neg =>
    go_enter Trym.func5, Trym.ntmps5
    go_wp2_with (go_at_call 16; refine (bytes16_no _ _ _ _ _ hsum hn hs).mono ?_; rintro e w' ⟨rfl, rfl⟩)
    go_ret
    exact ⟨rfl, Below.refl _ _⟩
  have d1 : decide ((1048576 : Int) < (n : Int)) = false := decide_eq_false (by omega)
  have d2 : decide ((1048576 : Int) < (s.size : Int)) = false := decide_eq_false (by omega)
  have d3 : decide ((1048576 : Int) < (n : Int) + (s.size : Int)) = false := decide_eq_false (by omega)
  go_enter Trym.func5, Trym.ntmps5
  go_wp2_with (go_at_call 16; refine (bytes16_yes _ _ _ _ _ hsum).mono ?_; rintro e w' ⟨rfl, rfl⟩)
  refine (copy_any a n ca l _ (by omega) (by exact ha) na).mono ?_
  rintro e w1 ⟨ao, rfl, hnz, ho0, hb0⟩
  have hV1 : View w1 ao n l := by
    obtain ⟨ao', cap', hu, hV, _, _⟩ := ho0.shape
    rw [hla] at hu hV
    simp only [Value.slice.injEq, true_and] at hu
    obtain ⟨rfl, _⟩ := hu
    exact hV
  clear ha na ho0
  go_wp2_with fail
  refine (zz18 ao n l s _ hnz (by exact hV1) (by omega) (by omega)).mono ?_
  rintro e w2 ⟨v, rfl, ho, hb2⟩
  have hbw : Below w.heap.size w w2 := hb0.trans (hb2.mono hb0.size)
  have hVb := hV1.below hb2
  have hq := qt_len _ (sl s) (Nat.le_refl _)
  rw [sl_len] at hq
  have hLl : (l ++ [34] ++ qt (sl s) ++ [34]).length = n + 1 + (qt (sl s)).length + 1 := by simp; omega
  have hB0 : ∀ i, i < n → Bt (l ++ [34] ++ qt (sl s) ++ [34]) i = Bt l i := fun i hi => by rw [List.append_assoc, List.append_assoc, bt_left (by omega)]
  have hB1 : Bt (l ++ [34] ++ qt (sl s) ++ [34]) n = 34 := by rw [List.append_assoc, List.append_assoc]; exact bt_here hla
  have hB2 : Bt (l ++ [34] ++ qt (sl s) ++ [34]) (n + 1 + (qt (sl s)).length) = 34 := bt_here (by simp; omega)
  have hPt : ((l ++ [34] ++ qt (sl s) ++ [34]).drop (n + 1)).take (qt (sl s)).length = qt (sl s) := by
    have e : n + 1 = (l ++ [34]).length := by simp; omega
    rw [List.append_assoc, e, List.drop_left]
    simp
  obtain ⟨M, hM⟩ : ∃ M, M = n + 1 + (qt (sl s)).length := ⟨_, rfl⟩
  rw [← hM] at hLl hB2
  generalize l ++ [34] ++ qt (sl s) ++ [34] = L at *
  obtain ⟨g, c2, hu, hV, hc2, _, _, _⟩ := ho.shape' (by omega)
  rw [hLl] at hu hV hc2
  have hPart : View w2 (some ⟨g, n + 1, none⟩) (M - (n + 1)) (qt (sl s)) := by
    have := hV.part (n + 1) M (by omega) (by omega)
    rw [show M - (n + 1) = (qt (sl s)).length by omega] at this ⊢
    rw [hPt] at this
    simpa using this
  have HP : Hid (View w2 (some ⟨g, n + 1, none⟩) (M - (n + 1)) (qt (sl s))) := hPart
  have HC : Hid (∀ i, i < M + 1 → w2.cell? ⟨g, i, none⟩ = some (.int .u8 (Bt L i))) := fun i hi => by
    obtain ⟨b', off', e, hc⟩ := hV.cells (by omega)
    simp only [Option.some.injEq, Addr.mk.injEq, and_true] at e
    obtain ⟨rfl, rfl⟩ := e
    simpa using hc i hi
  have HB0 : Hid (∀ i, i < n → Bt L i = Bt l i) := hB0
  have HVb : Hid (View w2 ao n l) := hVb
  have gn := HC.out n (by omega)
  have gM := HC.out M (by omega)
  rw [hB1] at gn
  rw [hB2] at gM
  have hM1 : n + 1 ≤ M := by omega
  have hM2 : M ≤ 8388608 := by omega
  subst hu
  clear hM hPart hV hVb hB0 hB1 hB2 hPt ho hV1 hb2 hb0 hnz hq hLl
  have m1 : ¬ (M : Int) + 1 < (n : Int) + 2 := by omega
  have m2 : (n : Int) < (M : Int) + 1 := by omega
  have m3 : (M : Int) < (M : Int) + 1 := by omega
  have m4 : ¬ c2 = n + 1 := by omega
  go_wp2_with fail
  go_loopw [6] (fun x wr => ∃ k q : Nat, k ≤ n ∧ x = .int .i64 k ∧ wr = w2.drewN q) (fun x _ => n - (intOf x).toNat)
  case atStart => exact ⟨0, 0, Nat.zero_le _, rfl, rfl⟩
  case round =>
    obtain ⟨k, q, hk, rfl, rfl⟩ := hrel
    by_cases hkn : k < n
    · obtain ⟨b1, o1, h1, hc1⟩ := HVb.out.cells (by omega)
      have g1 := hc1 k hkn
      have g2 := HC.out k (by omega)
      rw [HB0.out k hkn] at g2
      have hk1 : (k : Int) < (n : Int) := by omega
      have hk2 : (k : Int) < (M : Int) + 1 := by omega
      subst h1
      clear hc1 gn gM
      go_wp2_with fail
      go_quiet (fail)
      go_wp2_with fail
      go_roundw
      case rel => exact ⟨k + 1, _, by omega, by go_num, rfl⟩
      case measure => simp [intOf]; omega
    · go_wp2_with fail
      refine (dec19 g (n + 1) (M - (n + 1)) (c2 - (n + 1)) (sl s) _ (sl_byt s) (by omega) (by exact HP.out)).mono ?_
      rintro e w3 ⟨v3, rfl, ho3, hb3⟩
      obtain ⟨a3, c3, hu3, hV3, _, _⟩ := ho3.shape
      rw [sl_len] at hu3 hV3
      have HV3 : Hid (View w3 a3 s.size (sl s)) := hV3
      have hbw3 : Below w.heap.size w w3 := (below_drewN hbw q).trans (hb3.mono hbw.size)
      subst hu3
      clear ho3 hV3 hb3 gn gM HP HC HB0 HVb hbw
      go_wp2_with fail
      go_loopw [9] (fun x wr => ∃ k q : Nat, k ≤ s.size ∧ x = .int .i64 k ∧ wr = w3.drewN q) (fun x _ => s.size - (intOf x).toNat)
      case atStart => exact ⟨0, 0, Nat.zero_le _, rfl, rfl⟩
      case round =>
        obtain ⟨k2, q2, hk2, rfl, rfl⟩ := hrel
        by_cases hkn2 : k2 < s.size
        · obtain ⟨b1, o1, h1, hc1⟩ := HV3.out.cells (by omega)
          have g1 := hc1 k2 hkn2
          have hck := sl_at hkn2
          have hk1 : (k2 : Int) < (s.size : Int) := by omega
          subst h1
          clear hc1
          go_wp2_with fail
          go_quiet (fail)
          go_wp2_with fail
          go_roundw
          case rel => exact ⟨k2 + 1, _, by omega, by go_num, rfl⟩
          case measure => simp [intOf]; omega
        · go_wp2_with fail
          go_ret
          exact ⟨rfl, below_drewN hbw3 _⟩

end Go.Proofs.Qxb6601998aMods.Kp
