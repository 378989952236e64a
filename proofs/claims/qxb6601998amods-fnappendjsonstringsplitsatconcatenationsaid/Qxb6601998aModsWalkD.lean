/-
  WALKS of seat b6601998aM: hexDigit; the law FnAppendJSONStringSplitsAtConcatenation.
-/
import Derived.Test.Qxb6601998aModsWalkC
import Derived.Deep.DeepCutAuto
namespace Go.Proofs.Qxb6601998aMods.Kp
open Go.RowKit
set_option linter.unusedVariables false

/-- hexDigit. -/
theorem hexd21 (v : Int) (w : World) (h0 : 0 ≤ v) (h1 : v < 16) : Calls Trym.prog 21 #[.int .u8 v] w fun e w' => e = .returned (.int .u8 (hx v)) ∧ w = w' := by
  by_cases h : v < 10
  · have H : Hid (hx v = 48 + v) := by simp [Hid, hx, h]
    go_enter Trym.func21, Trym.ntmps21
    go_wp2
    go_ret
    exact ⟨by rw [H.out]; rfl, rfl⟩
  · have H : Hid (hx v = 97 + v - 10) := by simp [Hid, hx, h]; omega
    go_enter Trym.func21, Trym.ntmps21
    go_wp2
    go_ret
    exact ⟨by rw [H.out]; rfl, rfl⟩

/-- 'append(out, xs...)': a slice of bytes that is not empty. -/
theorem wpList_appS {P : Program} (w : World) {ops : Array Oper} {rest : List Oper} {o : Oper} {a : Act} {Q : Exit → Act → World → Prop} (hgd : o.guard = none) (s x : Operand) (t : TypeId)
    (ho : o.op = .call { callee := .builtin .append, args := #[s, x], argTypes := #[t, t] })
    (base : Nat) (i : TypeInfo) (ht : P.underlying t = some (.slice 5)) (hi : P.info? 5 = some i) (hz : i.zero = some (.int .u8 0)) (hsize : i.size = 1) (hby : i.bytes = 1)
    (v : Value) (l : List Int) (hs : a.eval s = v) (hown : Own w base v l)
    (b off m c : Nat) (cs : List Int) (hV : View w (some ⟨b, off, none⟩) m cs) (hx : a.eval x = .slice (some ⟨b, off, none⟩) m c)
    (hlen : l.length + m ≤ 140737488355328) (hbase : base ≤ w.heap.size)
    (h : ∀ v' w', Own w' base v' (l ++ cs) → (∀ B, B ≤ base → Below B w w') → wpList P ops Q rest (a.put o.dst v') w') : wpList P ops Q (o :: rest) a w := by
  have hm := hV.1
  refine wpList_append_own w hgd s x t ho base 5 i (.int .u8 0) 1 1 ht hi hz hsize hby rfl (by decide) v l.length (ints l) hs hown.1 ⟨b, off, none⟩ m c (ints cs) hx (by rw [ints_len]; omega) ?_ (ints_one _) (by unfold maxLen; omega) (by omega) hbase ?_
  · intro j u hj
    have hjl : j < m := by
      have := (List.getElem?_eq_some_iff.1 hj).1
      rw [ints_len] at this; omega
    obtain ⟨b', off', e, hc⟩ := hV.2.2 j hjl
    simp only [Option.some.injEq, Addr.mk.injEq, and_true] at e
    obtain ⟨rfl, rfl⟩ := e
    rw [ints_get (by omega)] at hj
    rw [Addr.add_lit, hc, hj]
  · intro v' w' hown' hgrow _
    refine h v' w' ⟨?_, byt_app hown.2 hV.2.1⟩ ?_
    · have e : l.length + m = (l ++ cs).length := by simp; omega
      rw [e] at hown'
      rw [ints_app]
      exact hown'
    · intro B hB
      refine (Below.refl B w).grown hgrow (by omega) ?_
      intro k hk
      have := hown.1.lt k hk
      omega

theorem sl_app (t u : ByteArray) : sl (t ++ u) = sl t ++ sl u := by simp [sl]

/-- The joint is a C1 control. -/
def excB (t u : ByteArray) : Bool := decide (0 < t.size) && (Bt (sl t) (t.size - 1) == 194) && decide (0 < u.size) && decide (128 ≤ Bt (sl u) 0) && decide (Bt (sl u) 0 < 160)

theorem last_bt {l : List Int} {x : Int} (h : l.getLast? = some x) : 0 < l.length ∧ x = Bt l (l.length - 1) := by
  cases l with
  | nil => simp at h
  | cons a r =>
    refine ⟨by simp, ?_⟩
    rw [List.getLast?_eq_getElem?] at h
    simp only [Bt, List.getD, h, Option.getD_some]
theorem head_bt {l : List Int} {x : Int} (h : l.head? = some x) : 0 < l.length ∧ x = Bt l 0 := by
  cases l with
  | nil => simp at h
  | cons a r => simp at h; simp [Bt, h]

theorem exc_no {t u : ByteArray} (h : excB t u = false) : qt (sl (t ++ u)) = qt (sl t) ++ qt (sl u) := by
  rw [sl_app]
  refine qt_split (fun hl d hd hR => ?_)
  obtain ⟨a1, a2⟩ := last_bt hl
  obtain ⟨b1, b2⟩ := head_bt hd
  rw [sl_len] at a1 a2 b1
  unfold Rg at hR
  have : excB t u = true := by
    simp only [excB, ← a2, ← b2]
    simp; omega
  rw [h] at this; cases this

theorem exc_yes {t u : ByteArray} (h : excB t u = true) : ∃ t' d u', Rg d ∧ d = Bt (sl u) 0 ∧ 0 < t.size ∧ 0 < u.size ∧ Bt (sl t) (t.size - 1) = 194 ∧ qt (sl (t ++ u)) = qt t' ++ ue d ++ qt u' ∧ qt (sl t) = qt t' ++ [194] ∧ qt (sl u) = d :: qt u' := by
  simp only [excB, Bool.and_eq_true, decide_eq_true_eq, beq_iff_eq] at h
  obtain ⟨⟨⟨⟨h1, h2⟩, h3⟩, h4⟩, h5⟩ := h
  have ht : sl t = (sl t).take (t.size - 1) ++ [194] := by
    have := bt_take (l := sl t) (i := t.size - 1) (by rw [sl_len]; omega)
    rw [h2, show t.size - 1 + 1 = t.size by omega, List.take_of_length_le (by rw [sl_len]; omega)] at this
    exact this
  have hu : sl u = Bt (sl u) 0 :: (sl u).drop 1 := by
    have := bt_drop (l := sl u) (i := 0) (by rw [sl_len]; omega)
    simpa using this
  have hR : Rg (Bt (sl u) 0) := ⟨h4, h5⟩
  have hj := qt_joint (t := (sl t).take (t.size - 1)) (u := (sl u).drop 1) hR
  rw [← ht, ← hu] at hj
  exact ⟨_, _, _, hR, rfl, h1, h3, h2, by rw [sl_app]; exact hj.1, hj.2.1, hj.2.2⟩

theorem bytes20_yes (a s : ByteArray) (w : World) (h : a.size + s.size ≤ 1048576) :
    Calls Trym.prog 20 #[.string a, .string s] w fun e w' => e = .returned (.bool true) ∧ w = w' := by
  have h1 : ¬ (1048576 : Int) < (a.size : Int) := by omega
  have h2 : ¬ (1048576 : Int) < (s.size : Int) := by omega
  have h3 : ¬ (1048576 : Int) < (a.size : Int) + (s.size : Int) := by omega
  go_enter Trym.func20, Trym.ntmps20
  go_wp2
  go_ret
  exact ⟨rfl, rfl⟩

theorem bytes20_no (a s : ByteArray) (w : World) (h : ¬ a.size + s.size ≤ 1048576) (hn : a.size ≤ maxLen) (hm : s.size ≤ maxLen) :
    Calls Trym.prog 20 #[.string a, .string s] w fun e w' => e = .returned (.bool false) ∧ w = w' := by
  unfold maxLen at hn hm
  by_cases h1 : (1048576 : Int) < (a.size : Int)
  · go_enter Trym.func20, Trym.ntmps20
    go_wp2
    go_ret
    exact ⟨rfl, rfl⟩
  · by_cases h2 : (1048576 : Int) < (s.size : Int)
    · go_enter Trym.func20, Trym.ntmps20
      go_wp2
      go_ret
      exact ⟨rfl, rfl⟩
    · have h3 : (1048576 : Int) < (a.size : Int) + (s.size : Int) := by omega
      go_enter Trym.func20, Trym.ntmps20
      go_wp2
      go_ret
      exact ⟨rfl, rfl⟩

set_option maxRecDepth 100000 in
set_option maxHeartbeats 4000000 in
theorem law6 (t u : ByteArray) (w : World) (hn : t.size ≤ maxLen) (hs : u.size ≤ maxLen) :
    Calls Trym.prog 6 #[.string t, .string u] w fun e w' => e = .returned (.bool true) ∧ Below w.heap.size w w' := by
  obtain ⟨i5, hi, hz0, hz1, hz2⟩ := info_parts info5
  by_cases hsum : t.size + u.size ≤ 1048576
  case neg =>
    go_enter Trym.func6, Trym.ntmps6
    go_wp2_with (go_at_call 20; refine (bytes20_no _ _ _ hsum hn hs).mono ?_; rintro e w' ⟨rfl, rfl⟩)
    go_ret
    exact ⟨rfl, Below.refl _ _⟩
  have d1 : decide ((1048576 : Int) < (t.size : Int)) = false := decide_eq_false (by omega)
  have d2 : decide ((1048576 : Int) < (u.size : Int)) = false := decide_eq_false (by omega)
  have d3 : decide ((1048576 : Int) < (t.size : Int) + (u.size : Int)) = false := decide_eq_false (by omega)
  go_enter Trym.func6, Trym.ntmps6
  go_wp2_with (go_at_call 20; refine (bytes20_yes _ _ _ hsum).mono ?_; rintro e w' ⟨rfl, rfl⟩)
  refine (zz18 none 0 [] (t ++ u) _ (NilZ.zero _) ⟨rfl, fun x hx => (by cases hx), fun i hi => by omega⟩ (by omega) (by rw [ByteArray.size_append]; omega)).mono ?_
  rintro e w1 ⟨v1, rfl, ho1, hb1⟩
  have q1 := qt_len _ (sl t) (Nat.le_refl _)
  have q2 := qt_len _ (sl u) (Nat.le_refl _)
  rw [sl_len] at q1 q2
  go_wp2_with fail
  refine (zz18 none 0 [] t _ (NilZ.zero _) ⟨rfl, fun x hx => (by cases hx), fun i hi => by omega⟩ (by omega) (by omega)).mono ?_
  rintro e w2 ⟨v2, rfl, ho2, hb2⟩
  have ho1' := ho1.kept hb2
  go_wp2_with fail
  refine (zz18 none 0 [] u _ (NilZ.zero _) ⟨rfl, fun x hx => (by cases hx), fun i hi => by omega⟩ (by omega) (by omega)).mono ?_
  rintro e w3 ⟨v3, rfl, ho3, hb3⟩
  have ho1'' := ho1'.kept hb3
  have ho2' := ho2.kept hb3
  have hbw3 : Below w.heap.size w w3 := (hb1.trans (hb2.mono hb1.size)).trans (hb3.mono (Nat.le_trans hb1.size hb2.size))
  clear ho1 ho1' ho2 hb1 hb2 hb3
  generalize hWl : ([] ++ [34] ++ qt (sl (t ++ u)) ++ [34] : List Int) = Wl at *
  generalize hXl : ([] ++ [34] ++ qt (sl t) ++ [34] : List Int) = X at *
  generalize hYl : ([] ++ [34] ++ qt (sl u) ++ [34] : List Int) = Y at *
  obtain ⟨nx, hnx, hnxb⟩ : ∃ nx, X.length = nx + 2 ∧ nx = (qt (sl t)).length := ⟨(qt (sl t)).length, by rw [← hXl]; simp, rfl⟩
  obtain ⟨ny, hny, hnyb⟩ : ∃ ny, Y.length = ny + 2 ∧ ny = (qt (sl u)).length := ⟨(qt (sl u)).length, by rw [← hYl]; simp, rfl⟩
  obtain ⟨nw, hnw⟩ : ∃ nw, Wl.length = nw + 2 := ⟨(qt (sl (t ++ u))).length, by rw [← hWl]; simp⟩
  obtain ⟨g1, c1, hu1, hV1, hc1, _, _, _⟩ := ho1''.shape' (by omega)
  obtain ⟨g2, c2, hu2, hV2, hc2, _, _, _⟩ := ho2'.shape' (by omega)
  obtain ⟨g3, c3, hu3, hV3, hc3, _, _, _⟩ := ho3.shape' (by omega)
  rw [hnw] at hu1 hV1 hc1
  rw [hnx] at hu2 hV2 hc2
  rw [hny] at hu3 hV3 hc3
  subst hu1
  subst hu2
  subst hu3
  have hnx6 : nx ≤ 6291456 := by omega
  have hny6 : ny ≤ 6291456 := by omega
  have HX : Hid ([] ++ [34] ++ qt (sl t) ++ [34] = X) := hXl
  have HY : Hid ([] ++ [34] ++ qt (sl u) ++ [34] = Y) := hYl
  have HW : Hid ([] ++ [34] ++ qt (sl (t ++ u)) ++ [34] = Wl) := hWl
  have HNX : Hid (X.length = nx + 2 ∧ nx = (qt (sl t)).length) := ⟨hnx, hnxb⟩
  have HNY : Hid (Y.length = ny + 2 ∧ ny = (qt (sl u)).length) := ⟨hny, hnyb⟩
  have HNW : Hid (Wl.length = nw + 2) := hnw
  have HV1 : Hid (View w3 (some ⟨g1, 0, none⟩) (nw + 2) Wl) := hV1
  have HV2 : Hid (View w3 (some ⟨g2, 0, none⟩) (nx + 2) X) := hV2
  have HV3 : Hid (View w3 (some ⟨g3, 0, none⟩) (ny + 2) Y) := hV3
  clear hXl hYl hWl hnx hny hnw hV1 hV2 hV3 ho1'' ho2' ho3 q1 q2 hnxb hnyb
  have l1 : ¬ ((nx : Int) + 2 < 2) := by omega
  have l2 : ¬ ((ny : Int) + 2 < 2) := by omega
  have l1d : decide ((nx : Int) + 2 < 2) = false := decide_eq_false l1
  have l2d : decide ((ny : Int) + 2 < 2) = false := decide_eq_false l2
  go_upto_region 11 with fail
  go_cut [70] (fun x wc => x = .bool (excB t u) ∧ w3 = wc)
  case first =>
    by_cases t0 : 0 < t.size
    case neg =>
      have t0' : decide (0 < t.size) = false := decide_eq_false t0
      have HE : Hid (excB t u = false) := by simp [Hid, excB, t0']
      clear t0
      go_wp2_with fail
      go_meet
      exact ⟨by rw [HE.out], rfl⟩
    have hckt := sl_at (s := t) (k := t.size - 1) (by omega)
    have p2 : (1 : Int) ≤ (t.size : Int) := by omega
    have p3 : (t.size : Int) - 1 < (t.size : Int) := by omega
    have hEx : Hid (excB t u = ((Bt (sl t) (t.size - 1) == 194) && decide (0 < u.size) && decide (128 ≤ Bt (sl u) 0) && decide (Bt (sl u) 0 < 160))) := by simp [Hid, excB, t0]
    generalize Bt (sl t) (t.size - 1) = cl at *
    by_cases hcl : cl = 194
    case neg =>
      have HE : Hid (excB t u = false) := by rw [Hid, hEx.out]; simp [hcl]
      have e1 := ne_beq hcl
      clear hEx hcl
      go_wp2_with fail
      go_meet
      exact ⟨by rw [HE.out], rfl⟩
    subst hcl
    by_cases u0 : 0 < u.size
    case neg =>
      have u0' : decide (0 < u.size) = false := decide_eq_false u0
      have HE : Hid (excB t u = false) := by rw [Hid, hEx.out]; simp [u0']
      clear hEx u0
      go_wp2_with fail
      go_meet
      exact ⟨by rw [HE.out], rfl⟩
    have hcku := sl_at (s := u) (k := 0) u0
    have u0' : (0 : Int) < (u.size : Int) := by omega
    generalize Bt (sl u) 0 = du at *
    by_cases h128 : 128 ≤ du
    case neg =>
      have x128 : decide (128 ≤ du) = false := decide_eq_false h128
      have HE : Hid (excB t u = false) := by rw [Hid, hEx.out]; simp [x128]
      clear hEx h128
      go_wp2_with fail
      go_meet
      exact ⟨by rw [HE.out], rfl⟩
    by_cases h160 : du < 160
    case neg =>
      have x160 : decide (du < 160) = false := decide_eq_false h160
      have HE : Hid (excB t u = false) := by rw [Hid, hEx.out]; simp [x160]
      clear hEx h160
      go_wp2_with fail
      go_meet
      exact ⟨by rw [HE.out], rfl⟩
    have HE : Hid (excB t u = true) := by rw [Hid, hEx.out]; simp [u0, h128, h160]
    clear hEx
    go_wp2_with fail
    go_meet
    exact ⟨by rw [HE.out], rfl⟩
  case rest =>
  obtain ⟨rfl, rfl⟩ := hcut
  cases hE : excB t u with
  | false =>
    have hq := exc_no hE
    have hXt : X.take (nx + 1) = [34] ++ qt (sl t) := by rw [← HX.out, HNX.out.2]; simp
    have hYd : (Y.drop 1).take (ny + 1) = qt (sl u) ++ [34] := by rw [← HY.out, HNY.out.2]; simp [List.take_of_length_le]
    have hWe : Wl = ([] ++ ([34] ++ qt (sl t))) ++ (qt (sl u) ++ [34]) := by rw [← HW.out, hq]; simp
    have hP2 : View w3 (some ⟨g2, 0, none⟩) (nx + 1) ([34] ++ qt (sl t)) := by
      have := HV2.out.part 0 (nx + 1) (by omega) (by omega)
      simp only [Nat.add_zero, Nat.sub_zero, List.drop_zero, hXt] at this
      exact this
    have hP3 : View w3 (some ⟨g3, 1, none⟩) (ny + 1) (qt (sl u) ++ [34]) := by
      have := HV3.out.part 1 (ny + 2) (by omega) (by omega)
      rw [show ny + 2 - 1 = ny + 1 by omega, hYd] at this
      simpa using this
    have hc3' : ¬ c3 = 1 := by omega
    have HWE : Hid (Wl = ([] ++ ([34] ++ qt (sl t))) ++ (qt (sl u) ++ [34])) := hWe
    have hlx : ([34] ++ qt (sl t)).length = nx + 1 := hP2.1
    have hly : (qt (sl u) ++ [34]).length = ny + 1 := hP3.1
    generalize [34] ++ qt (sl t) = X1 at *
    generalize qt (sl u) ++ [34] = Y1 at *
    clear hq hXt hYd hWe
    go_wp2_with (first | (at_builtin; refine wpList_appS _ rfl (.tmp 101) (.tmp 106) 34 rfl w3.heap.size i5 Trym.underlying34 hi hz0 hz1 hz2 _ [] rfl (Own.nil _ _) g2 0 (nx + 1) c2 X1 hP2 rfl (by simp; omega) (by omega) ?_; intro v' w' ho' hb'; have hP3' := hP3.below (hb' _ (Nat.le_refl _)); have hsz' := (hb' w3.heap.size (Nat.le_refl _)).size) | (at_builtin; refine wpList_appS _ rfl (.tmp 108) (.tmp 110) 34 rfl w3.heap.size i5 Trym.underlying34 hi hz0 hz1 hz2 _ _ rfl ho' g3 1 (ny + 1) (c3 - 1) Y1 hP3' rfl (by simp; omega) (by omega) ?_; intro v'' w'' ho'' hb''))
    have hoF := ho''.cast HWE.out.symm
    obtain ⟨aoF, capF, huF, hVF, _, _⟩ := hoF.shape
    rw [HNW.out] at huF hVF
    have hbF : Below w3.heap.size w3 w'' := (hb' _ (Nat.le_refl _)).trans (hb'' _ (Nat.le_refl _))
    have hV1F := HV1.out.below hbF
    have hbwF : Below w.heap.size w w'' := hbw3.trans (hbF.mono hbw3.size)
    have hnwb : nw ≤ 100000000 := by have h1 := HNW.out; have h2 := congrArg List.length HWE.out; simp at h2; omega
    subst huF
    refine (same_true _ _ (nw + 2) c1 capF Wl _ (by omega) (by exact hV1F) (by exact hVF)).mono ?_
    rintro e w5 ⟨rfl, q5, rfl⟩
    clear hV1F hVF hoF ho'' ho' hP2 hP3 hP3'
    go_wp2_with fail
    go_ret
    exact ⟨rfl, below_drewN hbwF _⟩
  | true =>
    obtain ⟨t', d, u', hR, hd0, ht0, hu0, h194, hqW, hqt, hqu⟩ := exc_yes hE
    have hnx1 : nx = (qt t').length + 1 := by rw [HNX.out.2, hqt]; simp
    have hny1 : ny = (qt u').length + 1 := by rw [HNY.out.2, hqu]; simp
    have hXt : X.take nx = [34] ++ qt t' := by rw [← HX.out, hqt, hnx1]; simp
    have hYd : (Y.drop 2).take ny = qt u' ++ [34] := by rw [← HY.out, hqu, hny1]; simp [List.take_of_length_le]
    have hWe : Wl = ([] ++ ([34] ++ qt t')) ++ ue d ++ (qt u' ++ [34]) := by rw [← HW.out, hqW]; simp
    have hP2 : View w3 (some ⟨g2, 0, none⟩) nx ([34] ++ qt t') := by
      have := HV2.out.part 0 nx (by omega) (by omega)
      simp only [Nat.add_zero, Nat.sub_zero, List.drop_zero, hXt] at this
      exact this
    have hP3 : View w3 (some ⟨g3, 2, none⟩) ny (qt u' ++ [34]) := by
      have := HV3.out.part 2 (ny + 2) (by omega) (by omega)
      rw [show ny + 2 - 2 = ny by omega, hYd] at this
      simpa using this
    have hc3' : ¬ c3 = 2 := by omega
    have hc2' : ¬ c2 = 0 := by omega
    have hck := sl_at hu0
    rw [← hd0] at hck
    have hby1 : 0 ≤ d ∧ d ≤ 255 := by rw [hd0]; exact Byt.at (sl_byt u) 0
    have hu0' : (0 : Int) < (u.size : Int) := by omega
    have HWE : Hid (Wl = ([] ++ ([34] ++ qt t')) ++ ue d ++ (qt u' ++ [34])) := hWe
    have hlx : ([34] ++ qt t').length = nx := hP2.1
    have hly : (qt u' ++ [34]).length = ny := hP3.1
    generalize [34] ++ qt t' = X1 at *
    generalize qt u' ++ [34] = Y1 at *
    have m1 : decide ((nx : Int) + 2 < 3) = false := decide_eq_false (by omega)
    have m2 : decide ((ny : Int) + 2 < 3) = false := decide_eq_false (by omega)
    have a1 : 0 ≤ d / 16 := by omega
    have a2 : d / 16 < 16 := by omega
    have a3 : 0 ≤ d % 16 := by omega
    have a4 : d % 16 < 16 := by omega
    have hand := and15 hby1
    have HD0 : Hid (d = Bt (sl u) 0) := hd0
    clear hqW hqt hqu hXt hYd hWe hnx1 hny1 h194 ht0 hd0 hR
    go_wp2_with (at_builtin; refine wpList_appS _ rfl (.tmp 79) (.tmp 84) 34 rfl w3.heap.size i5 Trym.underlying34 hi hz0 hz1 hz2 _ [] rfl (Own.nil _ _) g2 0 nx c2 X1 hP2 rfl (by simp; omega) (by omega) ?_; intro v' w' ho' hb'; have hP3' := hP3.below (hb' _ (Nat.le_refl _)); have hsz' := (hb' w3.heap.size (Nat.le_refl _)).size)
    go_region_law (first | (refine step_pushL w'.drew rfl (.tmp 86) (.tmp 95) 34 rfl w3.heap.size i5 Trym.underlying34 hi hz0 hz1 hz2 v' ([] ++ X1) (by rfl) ho'.drew #[.int .u8 92, .int .u8 117, .int .u8 48, .int .u8 48, .int .u8 (hx (d / 16)), .int .u8 (hx (d % 16))] (ue d) 6 rfl rfl (ue_byte hby1) (by rfl) (by simp; omega) (by simp; omega) _ (by rfl) ?_; intro v4 w4 ho4 hb4) | (go_simp; refine (hexd21 _ _ (by omega) (by omega)).mono ?_; rintro e w4 ⟨rfl, rfl⟩))
    all_goals
      have hb34 : Below w3.heap.size w3 w4 := (Below.drew (hb' _ (Nat.le_refl _))).trans (hb4 _ (Nat.le_refl _))
      have hP3'' := hP3.below hb34
      have hsz4 := hb34.size
      go_wp2_with (at_builtin; refine wpList_appS _ rfl (.tmp 97) (.tmp 99) 34 rfl w3.heap.size i5 Trym.underlying34 hi hz0 hz1 hz2 _ _ rfl ho4 g3 2 ny (c3 - 2) Y1 hP3'' rfl (by simp [ue_len]; omega) (by omega) ?_; intro v'' w'' ho'' hb'')
      have hoF := ho''.cast HWE.out.symm
      obtain ⟨aoF, capF, huF, hVF, _, _⟩ := hoF.shape
      rw [HNW.out] at huF hVF
      have hbF : Below w3.heap.size w3 w'' := hb34.trans (hb'' _ (Nat.le_refl _))
      have hV1F := HV1.out.below hbF
      have hbwF : Below w.heap.size w w'' := hbw3.trans (hbF.mono hbw3.size)
      have hnwb : nw ≤ 100000000 := by have h1 := HNW.out; have h2 := congrArg List.length HWE.out; simp [ue_len] at h2; omega
      subst huF
      refine (same_true _ _ (nw + 2) c1 capF Wl _ (by omega) (by exact hV1F) (by exact hVF)).mono ?_
      rintro e w5 ⟨rfl, q5, rfl⟩
      clear hV1F hVF hoF ho'' ho' ho4 hP2 hP3 hP3' hP3''
      go_wp2_with fail
      go_ret
      exact ⟨rfl, below_drewN hbwF _⟩

end Go.Proofs.Qxb6601998aMods.Kp
