/-
  WALKS of seat b6601998aM: ZZappendJSONString, plainText; the law FnAppendJSONStringLengthBounds.
-/
import Derived.Test.Qxb6601998aModsWalkB
namespace Go.Proofs.Qxb6601998aMods.Kp
open Go.RowKit
set_option linter.unusedVariables false

set_option maxHeartbeats 400000 in
theorem zz18 (ao : Option Addr) (n : Nat) (lb : List Int) (s : ByteArray) (w : World) (hnil : NilZ ao n) (hv : View w ao n lb) (hn : n ≤ 1099511627776) (hs : s.size ≤ 1099511627776) :
    Calls Trym.prog 18 #[.slice ao n n, .string s] w fun e w' => ∃ v, e = .returned v ∧ Own w' w.heap.size v (lb ++ [34] ++ qt (sl s) ++ [34]) ∧ Below w.heap.size w w' := by
  go_enter Trym.func18, Trym.ntmps18
  go_wp2_with fail
  refine (app25 ao n lb s _ hnil (by exact hv) hn hs).mono ?_
  rintro e w1 ⟨v, rfl, ho, hb⟩
  have HO : Hid (Own w1 w.heap.size v (lb ++ [34] ++ qt (sl s) ++ [34])) := ho
  clear ho hv hnil
  go_wp2
  go_ret
  exact ⟨v, rfl, HO.out, hb⟩

theorem plB_step {L : List Int} {k : Nat} (h1 : k < L.length) (hb : ¬ (Bt L k = 34 ∨ Bt L k = 92 ∨ Bt L k < 32 ∨ Bt L k = 127)) (h2 : Bt L k = 194 → k + 1 < L.length → ¬ Rg (Bt L (k + 1))) : plB (L.drop k) = plB (L.drop (k + 1)) := by
  rw [bt_drop h1, plB_next hb (fun hc d hd => by obtain ⟨a, rfl⟩ := head_drop hd; exact h2 hc a)]
theorem plB_no {L : List Int} {k : Nat} (h1 : k < L.length) (hb : Bt L k = 34 ∨ Bt L k = 92 ∨ Bt L k < 32 ∨ Bt L k = 127) : plB (L.drop k) = false := by
  rw [bt_drop h1, plB_bad _ hb]
theorem plB_no2 {L : List Int} {k : Nat} (h1 : k + 1 < L.length) (h2 : Bt L k = 194) (h3 : Rg (Bt L (k + 1))) : plB (L.drop k) = false := by
  rw [bt_drop (show k < L.length by omega), h2, bt_drop h1, plB_pair _ h3]

set_option maxRecDepth 100000 in
set_option maxHeartbeats 2000000 in
/-- plainText. -/
theorem plain24 (s : ByteArray) (w : World) (hs : s.size ≤ 1099511627776) :
    Calls Trym.prog 24 #[.string s] w fun e w' => e = .returned (.bool (plB (sl s))) ∧ w = w' := by
  have HSL : Hid ((sl s).length = s.size) := sl_len s
  go_enter Trym.func24, Trym.ntmps24
  go_wp2
  go_loop [3] (fun i => ∃ k : Nat, k ≤ s.size ∧ i = .int .i64 k ∧ Hid (plB ((sl s).drop k) = plB (sl s))) (fun i => s.size - (intOf i).toNat)
  case atStart => exact ⟨0, Nat.zero_le _, rfl, rfl⟩
  case round =>
    obtain ⟨k, hk, rfl, hP⟩ := hrel
    by_cases hlt : k < s.size
    case neg =>
      have hend : Hid (plB (sl s) = true) := by
        have := hP.out
        rw [List.drop_eq_nil_of_le (by rw [HSL.out]; omega)] at this
        rw [Hid, ← this]; rfl
      clear hP
      go_wp2
      go_ret
      exact ⟨by rw [hend.out]; rfl, rfl⟩
    have hlt' : (k : Int) < (s.size : Int) := by omega
    have hck := sl_at hlt
    have hby := Byt.at (sl_byt s) k
    by_cases hbad : Bt (sl s) k = 34 ∨ Bt (sl s) k = 92 ∨ Bt (sl s) k < 32 ∨ Bt (sl s) k = 127
    · have hend : Hid (plB (sl s) = false) := by rw [Hid, ← hP.out]; exact plB_no (by rw [HSL.out]; exact hlt) hbad
      clear hP
      generalize Bt (sl s) k = c at *
      by_cases h34 : c = 34
      · subst h34
        clear hbad
        go_wp2
        go_ret
        exact ⟨by rw [hend.out]; rfl, rfl⟩
      by_cases h92 : c = 92
      · subst h92
        clear hbad h34
        go_wp2
        go_ret
        exact ⟨by rw [hend.out]; rfl, rfl⟩
      have x34 := ne_beq h34
      have x92 := ne_beq h92
      by_cases h32 : c < 32
      · clear hbad
        go_wp2
        go_ret
        exact ⟨by rw [hend.out]; rfl, rfl⟩
      have x32 : decide (c < 32) = false := decide_eq_false h32
      have x127 : (c == 127) = true := by simp; omega
      clear hbad
      go_wp2
      go_ret
      exact ⟨by rw [hend.out]; rfl, rfl⟩
    have x34 : (Bt (sl s) k == 34) = false := ne_beq (fun e => hbad (.inl e))
    have x92 : (Bt (sl s) k == 92) = false := ne_beq (fun e => hbad (.inr (.inl e)))
    have x32 : decide (Bt (sl s) k < 32) = false := decide_eq_false (fun e => hbad (.inr (.inr (.inl e))))
    have x127 : (Bt (sl s) k == 127) = false := ne_beq (fun e => hbad (.inr (.inr (.inr e))))
    by_cases hpair : Bt (sl s) k = 194 ∧ k + 1 < s.size ∧ Rg (Bt (sl s) (k + 1))
    · obtain ⟨h194, hk1, hrg⟩ := hpair
      have hck1 := sl_at hk1
      have hk1' : (k : Int) + 1 < (s.size : Int) := by omega
      have hend : Hid (plB (sl s) = false) := by rw [Hid, ← hP.out]; exact plB_no2 (by rw [HSL.out]; exact hk1) h194 hrg
      have x194 : (Bt (sl s) k == 194) = true := by simpa using h194
      unfold Rg at hrg
      clear hP hbad h194
      generalize Bt (sl s) (k + 1) = d at *
      go_wp2
      go_ret
      exact ⟨by rw [hend.out]; rfl, rfl⟩
    have hP' : Hid (plB ((sl s).drop (k + 1)) = plB (sl s)) := by
      rw [Hid, ← hP.out]
      exact (plB_step (by rw [HSL.out]; exact hlt) hbad (fun h1 h2 h3 => hpair ⟨h1, by rw [HSL.out] at h2; exact h2, h3⟩)).symm
    have hnp : Hid (¬ (Bt (sl s) k = 194 ∧ k + 1 < s.size ∧ Rg (Bt (sl s) (k + 1)))) := hpair
    clear hpair hP hbad
    by_cases h194 : Bt (sl s) k = 194
    · have x194 : (Bt (sl s) k == 194) = true := by simpa using h194
      by_cases hk1 : k + 1 < s.size
      · have hck1 := sl_at hk1
        have hk1' : (k : Int) + 1 < (s.size : Int) := by omega
        have hnr : ¬ Rg (Bt (sl s) (k + 1)) := fun h => hnp.out ⟨h194, hk1, h⟩
        unfold Rg at hnr
        clear hnp h194
        generalize Bt (sl s) (k + 1) = d at *
        by_cases hd : 128 ≤ d
        · have hd2 : decide (d < 160) = false := decide_eq_false (by omega)
          go_wp2
          go_round
          case rel => exact ⟨k + 1, by omega, by go_num, hP'⟩
          case measure => simp [intOf]; omega
        · have hd2 : decide (128 ≤ d) = false := decide_eq_false hd
          go_wp2
          go_round
          case rel => exact ⟨k + 1, by omega, by go_num, hP'⟩
          case measure => simp [intOf]; omega
      · have hk2 : decide ((k : Int) + 1 < (s.size : Int)) = false := decide_eq_false (by omega)
        clear hnp h194
        go_wp2
        go_round
        case rel => exact ⟨k + 1, by omega, by go_num, hP'⟩
        case measure => simp [intOf]; omega
    · have x194 : (Bt (sl s) k == 194) = false := ne_beq h194
      clear hnp h194
      go_wp2
      go_round
      case rel => exact ⟨k + 1, by omega, by go_num, hP'⟩
      case measure => simp [intOf]; omega

theorem bytes23_yes (a : Option Addr) (n ca : Nat) (s : ByteArray) (w : World) (h : n + s.size ≤ 1048576) :
    Calls Trym.prog 23 #[.slice a n ca, .string s] w fun e w' => e = .returned (.bool true) ∧ w = w' := by
  have h1 : ¬ (1048576 : Int) < (n : Int) := by omega
  have h2 : ¬ (1048576 : Int) < (s.size : Int) := by omega
  have h3 : ¬ (1048576 : Int) < (n : Int) + (s.size : Int) := by omega
  go_enter Trym.func23, Trym.ntmps23
  go_wp2
  go_ret
  exact ⟨rfl, rfl⟩

theorem bytes23_no (a : Option Addr) (n ca : Nat) (s : ByteArray) (w : World) (h : ¬ n + s.size ≤ 1048576) (hn : n ≤ maxLen) (hm : s.size ≤ maxLen) :
    Calls Trym.prog 23 #[.slice a n ca, .string s] w fun e w' => e = .returned (.bool false) ∧ w = w' := by
  unfold maxLen at hn hm
  by_cases h1 : (1048576 : Int) < (n : Int)
  · go_enter Trym.func23, Trym.ntmps23
    go_wp2
    go_ret
    exact ⟨rfl, rfl⟩
  · by_cases h2 : (1048576 : Int) < (s.size : Int)
    · go_enter Trym.func23, Trym.ntmps23
      go_wp2
      go_ret
      exact ⟨rfl, rfl⟩
    · have h3 : (1048576 : Int) < (n : Int) + (s.size : Int) := by omega
      go_enter Trym.func23, Trym.ntmps23
      go_wp2
      go_ret
      exact ⟨rfl, rfl⟩

set_option maxRecDepth 100000 in
set_option maxHeartbeats 1000000 in
theorem law7 (a : Option Addr) (n ca : Nat) (l : List Int) (s : ByteArray) (w : World) (hn : n ≤ maxLen) (hs : s.size ≤ maxLen) (ha : View w a n l) (na : a = none → n = 0 ∧ ca = 0) :
    Calls Trym.prog 7 #[.slice a n ca, .string s] w fun e w' => e = .returned (.bool true) ∧ Below w.heap.size w w' := by
  have hla := ha.1
  by_cases hsum : n + s.size ≤ 1048576
  case neg =>
    go_enter Trym.func7, Trym.ntmps7
    go_wp2_with (go_at_call 23; refine (bytes23_no _ _ _ _ _ hsum hn hs).mono ?_; rintro e w' ⟨rfl, rfl⟩)
    go_ret
    exact ⟨rfl, Below.refl _ _⟩
  have d1 : decide ((1048576 : Int) < (n : Int)) = false := decide_eq_false (by omega)
  have d2 : decide ((1048576 : Int) < (s.size : Int)) = false := decide_eq_false (by omega)
  have d3 : decide ((1048576 : Int) < (n : Int) + (s.size : Int)) = false := decide_eq_false (by omega)
  go_enter Trym.func7, Trym.ntmps7
  go_wp2_with (go_at_call 23; refine (bytes23_yes _ _ _ _ _ hsum).mono ?_; rintro e w' ⟨rfl, rfl⟩)
  refine (copy_any a n ca l _ (by omega) (by exact ha) na).mono ?_
  rintro e w1 ⟨ao, rfl, hnz, ho0, hb0⟩
  have hV1 : View w1 ao n l := by
    obtain ⟨ao', cap', hu, hV, _, _⟩ := ho0.shape
    rw [hla] at hu hV
    simp only [Value.slice.injEq, true_and] at hu
    obtain ⟨rfl, _⟩ := hu
    exact hV
  clear ha na ho0
  go_wp2_with fail
  refine (zz18 ao n l s _ hnz (by exact hV1) (by omega) (by omega)).mono ?_
  rintro e w2 ⟨v, rfl, ho, hb2⟩
  obtain ⟨ao2, cap2, hu, _, _, _⟩ := ho.shape
  have hbw : Below w.heap.size w w2 := hb0.trans (hb2.mono hb0.size)
  have hq := qt_len _ (sl s) (Nat.le_refl _)
  rw [sl_len] at hq
  have hlen : (l ++ [34] ++ qt (sl s) ++ [34]).length = n + (qt (sl s)).length + 2 := by simp; omega
  rw [hlen] at hu
  obtain ⟨hq1, hq2, hq3⟩ := hq
  have HQ : Hid ((qt (sl s)).length = s.size ↔ plB (sl s) = true) := hq3
  clear hq3 hlen ho hV1 hb2 hb0
  generalize (qt (sl s)).length = m at *
  subst hu
  have c1 : decide ((m : Int) + 2 < (s.size : Int) + 2) = false := decide_eq_false (by omega)
  have c2 : decide (6 * (s.size : Int) + 2 < (m : Int) + 2) = false := decide_eq_false (by omega)
  have hcases : (plB (sl s) = true ∧ (((n : Int) + (m : Int) + 2 - (n : Int)) == (s.size : Int) + 2) = true) ∨ (plB (sl s) = false ∧ (((n : Int) + (m : Int) + 2 - (n : Int)) == (s.size : Int) + 2) = false) := by
    cases hp : plB (sl s) with
    | true => exact .inl ⟨rfl, by have := HQ.out.2 hp; simp; omega⟩
    | false => exact .inr ⟨rfl, by have : ¬ m = s.size := (fun e => by rw [HQ.out.1 e] at hp; cases hp); simp; omega⟩
  rcases hcases with ⟨hp, he⟩ | ⟨hp, he⟩
  all_goals
    go_wp2_with (go_at_call 24; refine (plain24 _ _ (by omega)).mono ?_; rintro e w' ⟨rfl, rfl⟩)
    go_ret
    exact ⟨rfl, hbw⟩

end Go.Proofs.Qxb6601998aMods.Kp
