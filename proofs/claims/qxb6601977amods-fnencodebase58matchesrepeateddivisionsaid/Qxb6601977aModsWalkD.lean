/-
  WALKS of seat b6601977aM: the law FnEncodeBase58KeepsOrder.
-/
import Derived.Test.Qxb6601977aModsWalkC
namespace Go.Proofs.Qxb6601977aMods.Kp
open Go.RowKit
set_option linter.unusedVariables false

theorem strip_mem : ∀ {l : List Int} {x : Int}, x ∈ strip l → x ∈ l := by
  intro l
  induction l with
  | nil => intro x hx; cases hx
  | cons y r ih =>
    intro x hx
    by_cases h : y = 0
    · simp only [strip, if_pos h] at hx; exact List.mem_cons_of_mem _ (ih hx)
    · simp only [strip, if_neg h] at hx; exact hx
theorem strip_dg {l : List Int} (h : Byt l) : Dg 256 (strip l) := fun x hx => by have := h x (strip_mem hx); omega

/-- The encodings compare as the numbers do. -/
theorem order_ok {la lb : List Int} (ha : Byt la) (hb' : Byt lb) : cmpL (strip la) (strip lb) = cmpL ((enc [] la).reverse.map al) ((enc [] lb).reverse.map al) := by
  have ea := enc_ok la [] ha trivial
  have eb := enc_ok lb [] hb' trivial
  rw [cmpL_al (cn_dg ea.1) (cn_dg eb.1), cmpL_ok (.inl rfl) (cn_dg ea.1) (cn_dg eb.1) (cn_nz ea.1) (cn_nz eb.1), v58_rev, v58_rev, ea.2.1, eb.2.1,
    cmpL_ok (.inr rfl) (strip_dg ha) (strip_dg hb') (strip_nz la) (strip_nz lb), strip_hb, strip_hb]
  rfl

theorem bytes13_yes (a b : Option Addr) (n ca m cb : Nat) (w : World) (h : n + m ≤ 1048576) :
    Calls Trym.prog 13 #[.slice a n ca, .slice b m cb] w fun e w' => e = .returned (.bool true) ∧ w = w' := by
  have h1 : ¬ (1048576 : Int) < (n : Int) := by omega
  have h2 : ¬ (1048576 : Int) < (m : Int) := by omega
  have h3 : ¬ (1048576 : Int) < (n : Int) + (m : Int) := by omega
  go_enter Trym.func13, Trym.ntmps13
  go_wp2
  go_ret
  exact ⟨rfl, rfl⟩

theorem bytes13_no (a b : Option Addr) (n ca m cb : Nat) (w : World) (h : ¬ n + m ≤ 1048576) (hn : n ≤ maxLen) (hm : m ≤ maxLen) :
    Calls Trym.prog 13 #[.slice a n ca, .slice b m cb] w fun e w' => e = .returned (.bool false) ∧ w = w' := by
  unfold maxLen at hn hm
  by_cases h1 : (1048576 : Int) < (n : Int)
  · go_enter Trym.func13, Trym.ntmps13
    go_wp2
    go_ret
    exact ⟨rfl, rfl⟩
  · by_cases h2 : (1048576 : Int) < (m : Int)
    · go_enter Trym.func13, Trym.ntmps13
      go_wp2
      go_ret
      exact ⟨rfl, rfl⟩
    · have h3 : (1048576 : Int) < (n : Int) + (m : Int) := by omega
      go_enter Trym.func13, Trym.ntmps13
      go_wp2
      go_ret
      exact ⟨rfl, rfl⟩

/-- What a copy reads as. -/
theorem copy_view {w : World} {base n : Nat} {ao : Option Addr} {l : List Int} (h : Own w base (.slice ao n n) l) (hl : l.length = n) : View w ao n l := by
  obtain ⟨ao', cap', hu, hV, _, _⟩ := h.shape
  rw [hl] at hu hV
  simp only [Value.slice.injEq, true_and] at hu
  obtain ⟨rfl, _⟩ := hu
  exact hV

set_option maxRecDepth 100000 in
set_option maxHeartbeats 1000000 in
theorem law4 (a b : Option Addr) (n ca m cb : Nat) (la lb : List Int) (w : World) (hn : n ≤ maxLen) (hm : m ≤ maxLen)
    (ha : View w a n la) (hb : View w b m lb) (na : a = none → n = 0 ∧ ca = 0) (nb : b = none → m = 0 ∧ cb = 0) :
    Calls Trym.prog 4 #[.slice a n ca, .slice b m cb] w fun e w' => e = .returned (.bool true) ∧ Below w.heap.size w w' := by
  have hla := ha.1
  have hlb := hb.1
  by_cases hs : n + m ≤ 1048576
  case neg =>
    go_enter Trym.func4, Trym.ntmps4
    go_wp2_with (go_at_call 13; refine (bytes13_no _ _ _ _ _ _ _ hs hn hm).mono ?_; rintro e w' ⟨rfl, rfl⟩)
    go_ret
    exact ⟨rfl, Below.refl _ _⟩
  by_cases hn12 : (4096 : Int) < (n : Int)
  · go_enter Trym.func4, Trym.ntmps4
    go_wp2_with (go_at_call 13; refine (bytes13_yes _ _ _ _ _ _ _ hs).mono ?_; rintro e w' ⟨rfl, rfl⟩)
    go_ret
    exact ⟨rfl, Below.refl _ _⟩
  by_cases hm12 : (4096 : Int) < (m : Int)
  · go_enter Trym.func4, Trym.ntmps4
    go_wp2_with (go_at_call 13; refine (bytes13_yes _ _ _ _ _ _ _ hs).mono ?_; rintro e w' ⟨rfl, rfl⟩)
    go_ret
    exact ⟨rfl, Below.refl _ _⟩
  have HO : Hid (cmpL (strip la) (strip lb) = cmpL ((enc [] la).reverse.map al) ((enc [] lb).reverse.map al)) := order_ok ha.2.1 hb.2.1
  have ela := enc_ok la [] ha.2.1 trivial
  have elb := enc_ok lb [] hb.2.1 trivial
  have q1 : (enc [] la).length ≤ 2 * n := by have := ela.2.2; simp at this; omega
  have q2 : (enc [] lb).length ≤ 2 * m := by have := elb.2.2; simp at this; omega
  clear ela elb
  go_enter Trym.func4, Trym.ntmps4
  go_wp2_with (go_at_call 13; refine (bytes13_yes _ _ _ _ _ _ _ hs).mono ?_; rintro e w' ⟨rfl, rfl⟩)
  refine (copy_any a n ca la _ (by omega) (by exact ha) na).mono ?_
  rintro e w1 ⟨a1, rfl, _, ho1, hb1⟩
  have hV1 := copy_view ho1 hla
  have hbv := hb.below hb1
  go_wp2_with fail
  refine (copy_any b m cb lb _ (by omega) (by exact hbv) nb).mono ?_
  rintro e w2 ⟨a2, rfl, _, ho2, hb2⟩
  have hV2 := copy_view ho2 hlb
  have hV1' := hV1.below hb2
  have hbw2 : Below w.heap.size w w2 := hb1.trans (hb2.mono hb1.size)
  clear ho1 ho2 hb1 hb2 ha hb hV1 hbv na nb
  go_wp2_with fail
  refine (zz11 a1 n n la _ (by exact hV1') (by omega)).mono ?_
  rintro e w3 ⟨s1, rfl, hs1, hb3⟩
  have hV1'' := hV1'.below hb3
  have hV2' := hV2.below hb3
  have HS1 : Hid (sl s1 = (enc [] la).reverse.map al) := hs1
  have z1 : s1.size ≤ 2 * n := by rw [← sl_len, hs1]; simpa using q1
  have hbw3 : Below w.heap.size w w3 := hbw2.trans (hb3.mono hbw2.size)
  clear hs1 hV1' hV2 hb3 hbw2
  go_wp2_with fail
  refine (zz11 a2 m m lb _ (by exact hV2') (by omega)).mono ?_
  rintro e w4 ⟨s2, rfl, hs2, hb4⟩
  have hV1f := hV1''.below hb4
  have hV2f := hV2'.below hb4
  have HS2 : Hid (sl s2 = (enc [] lb).reverse.map al) := hs2
  have z2 : s2.size ≤ 2 * m := by rw [← sl_len, hs2]; simpa using q2
  have hbw4 : Below w.heap.size w w4 := hbw3.trans (hb4.mono hbw3.size)
  clear hs2 hV1'' hV2' hb4 hbw3
  go_wp2_with fail
  refine (cmpb14 a1 a2 n m n m la lb _ (by exact hV1f) (by exact hV2f) (by omega) (by omega) (by omega) (by omega) hn hm (strip la) (strip lb) rfl rfl).mono ?_
  rintro e w5 ⟨rfl, q5, rfl⟩
  clear hV1f hV2f
  have HE : Hid (cmpL (strip la) (strip lb) = cmpL (sl s1) (sl s2)) := by rw [Hid, HO.out, HS1.out, HS2.out]
  clear HO HS1 HS2 q1 q2
  generalize cmpL (strip la) (strip lb) = r1 at *
  go_wp2_with fail
  refine (cmpt15 s1 s2 _ (by omega) (by omega)).mono ?_
  rintro e w6 ⟨rfl, q6, rfl⟩
  rw [← HE.out]
  go_wp2_with fail
  go_ret
  exact ⟨by simp, below_drewN hbw4 _⟩

end Go.Proofs.Qxb6601977aMods.Kp
