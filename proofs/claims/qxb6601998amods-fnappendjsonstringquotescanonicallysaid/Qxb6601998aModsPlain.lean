/-
  PLAIN MATHEMATICS of seat b6601998aM: nothing of Go here.
-/
namespace Go.Proofs.Qxb6601998aMods.Kp

/-- The byte at place i. -/
def Bt (l : List Int) (i : Nat) : Int := l.getD i 0

theorem bt_drop {l : List Int} {i : Nat} (h : i < l.length) : l.drop i = Bt l i :: l.drop (i + 1) := by
  rw [List.drop_eq_getElem_cons h]
  simp [Bt, List.getD, h]

theorem bt_take {l : List Int} {i : Nat} (h : i < l.length) : l.take (i + 1) = l.take i ++ [Bt l i] := by
  rw [List.take_succ_eq_append_getElem h]
  simp [Bt, List.getD, h]

theorem bt_get {l : List Int} {i : Nat} (h : i < l.length) : l[i]? = some (Bt l i) := by
  simp [Bt, List.getD, h]

theorem bt_out {l : List Int} {i : Nat} (h : l.length ≤ i) : Bt l i = 0 := by
  simp [Bt, List.getD, h]

theorem bt_ext {a b : List Int} (h : a.length = b.length) (he : ∀ i, i < a.length → Bt a i = Bt b i) : a = b := by
  apply List.ext_getElem? 
  intro i
  by_cases hi : i < a.length
  · rw [bt_get hi, bt_get (by omega), he i hi]
  · rw [List.getElem?_eq_none (by omega), List.getElem?_eq_none (by omega)]

theorem bt_range {l : List Int} (h : ∀ n ∈ l, 0 ≤ n ∧ n ≤ 255) (i : Nat) : 0 ≤ Bt l i ∧ Bt l i ≤ 255 := by
  by_cases hi : i < l.length
  · have := h l[i] (List.getElem_mem hi)
    simpa [Bt, List.getD, hi] using this
  · rw [bt_out (by omega)]; omega

/-! ### The quoting -/
/-- A hexadecimal digit, lower case. -/
def hx (v : Int) : Int := if v < 10 then 48 + v else 87 + v
/-- The escape of a control. -/
def ue (c : Int) : List Int := [92, 117, 48, 48, hx (c / 16), hx (c % 16)]
/-- The second byte of a C1 control. -/
def Rg (d : Int) : Prop := 128 ≤ d ∧ d < 160
/-- What one character becomes that is no C1 control. -/
def one (c : Int) : List Int := if c = 34 ∨ c = 92 then [92, c] else if c < 32 ∨ c = 127 then ue c else [c]

def qt : List Int → List Int
  | [] => []
  | c :: r =>
    match r with
    | [] => one c
    | d :: r' => if c = 194 ∧ 128 ≤ d ∧ d < 160 then ue d ++ qt r' else one c ++ qt (d :: r')

theorem qt_nil : qt [] = [] := by simp [qt]
theorem qt_pair {d : Int} (r : List Int) (h : Rg d) : qt (194 :: d :: r) = ue d ++ qt r := by
  unfold Rg at h
  simp only [qt, true_and, if_pos h]
theorem qt_one {c : Int} {r : List Int} (h : c = 194 → ∀ d, r.head? = some d → ¬ Rg d) : qt (c :: r) = one c ++ qt r := by
  cases r with
  | nil => simp [qt]
  | cons d r' =>
    have hn : ¬ (c = 194 ∧ 128 ≤ d ∧ d < 160) := fun hh => h hh.1 d rfl ⟨hh.2.1, hh.2.2⟩
    simp only [qt, if_neg hn]
theorem one_len (c : Int) : 1 ≤ (one c).length ∧ (one c).length ≤ 6 := by
  unfold one
  split
  · simp
  · split
    · simp [ue]
    · simp
theorem ue_len (c : Int) : (ue c).length = 6 := by simp [ue]

/-- By the first character, or the first two. -/
theorem qt_cases (c : Int) (r : List Int) : (∃ d r', c = 194 ∧ r = d :: r' ∧ Rg d ∧ qt (c :: r) = ue d ++ qt r') ∨ ((c = 194 → ∀ d, r.head? = some d → ¬ Rg d) ∧ qt (c :: r) = one c ++ qt r) := by
  by_cases h : ∃ d r', c = 194 ∧ r = d :: r' ∧ Rg d
  · obtain ⟨d, r', rfl, rfl, hd⟩ := h
    exact .inl ⟨d, r', rfl, rfl, hd, qt_pair _ hd⟩
  · have h' : c = 194 → ∀ d, r.head? = some d → ¬ Rg d := fun hc d hd hR => by
      cases r with
      | nil => simp at hd
      | cons e r' => simp at hd; subst hd; exact h ⟨_, _, hc, rfl, hR⟩
    exact .inr ⟨h', qt_one h'⟩

theorem head_drop {l : List Int} {k : Nat} {d : Int} (h : (l.drop k).head? = some d) : k < l.length ∧ d = Bt l k := by
  by_cases hk : k < l.length
  · rw [bt_drop hk] at h
    simp at h
    exact ⟨hk, h.symm⟩
  · rw [List.drop_eq_nil_of_le (by omega)] at h
    simp at h
theorem step_pair {L D X : List Int} {k : Nat} (h1 : k + 1 < L.length) (h2 : Bt L k = 194) (h3 : Rg (Bt L (k + 1))) (e : D ++ qt (L.drop k) = X) : D ++ ue (Bt L (k + 1)) ++ qt (L.drop (k + 1 + 1)) = X := by
  rw [← e, bt_drop (show k < L.length by omega), h2, bt_drop h1, qt_pair _ h3]; simp
theorem step_one {L D X : List Int} {k : Nat} (h1 : k < L.length) (h2 : Bt L k = 194 → k + 1 < L.length → ¬ Rg (Bt L (k + 1))) (e : D ++ qt (L.drop k) = X) : D ++ one (Bt L k) ++ qt (L.drop (k + 1)) = X := by
  rw [← e, bt_drop h1, qt_one (fun hc d hd => by obtain ⟨a, rfl⟩ := head_drop hd; exact h2 hc a)]; simp
theorem end_qt {L D X : List Int} {k : Nat} (h : L.length ≤ k) (e : D ++ qt (L.drop k) = X) : D = X := by
  rw [← e, List.drop_eq_nil_of_le h]; simp [qt]
theorem pre_len {D R X : List Int} (e : D ++ R = X) : D.length ≤ X.length := by rw [← e]; simp
theorem one_esc {c : Int} (h : c = 34 ∨ c = 92) : one c = [92, c] := by simp [one, h]
theorem one_ctl {c : Int} (h : c < 32 ∨ c = 127) : one c = ue c := by unfold one; rw [if_neg (by omega), if_pos h]
theorem one_raw {c : Int} (h1 : c ≠ 34) (h2 : c ≠ 92) (h3 : ¬ c < 32) (h4 : c ≠ 127) : one c = [c] := by unfold one; rw [if_neg (by omega), if_neg (by omega)]
theorem hx_byte {v : Int} (h : 0 ≤ v ∧ v < 16) : 0 ≤ hx v ∧ hx v ≤ 255 := by unfold hx; split <;> omega
theorem ue_byte {c : Int} (h : 0 ≤ c ∧ c ≤ 255) : ∀ n ∈ ue c, 0 ≤ n ∧ n ≤ 255 := by
  intro n hn
  have h1 := hx_byte (v := c / 16) (by omega)
  have h2 := hx_byte (v := c % 16) (by omega)
  simp [ue] at hn
  omega

/-! ### Lengths -/
/-- Nothing must be escaped. -/
def plB : List Int → Bool
  | [] => true
  | c :: r =>
    if c = 34 ∨ c = 92 ∨ c < 32 ∨ c = 127 then false
    else match r with
      | [] => true
      | d :: r' => if c = 194 ∧ 128 ≤ d ∧ d < 160 then false else plB (d :: r')

theorem plB_bad {c : Int} (r : List Int) (h : c = 34 ∨ c = 92 ∨ c < 32 ∨ c = 127) : plB (c :: r) = false := by
  cases r <;> simp [plB, h]
theorem plB_pair {d : Int} (r : List Int) (h : Rg d) : plB (194 :: d :: r) = false := by
  unfold Rg at h
  simp only [plB, true_and, if_pos h]; simp
theorem plB_next {c : Int} {r : List Int} (h : ¬ (c = 34 ∨ c = 92 ∨ c < 32 ∨ c = 127)) (h2 : c = 194 → ∀ d, r.head? = some d → ¬ Rg d) : plB (c :: r) = plB r := by
  cases r with
  | nil => simp only [plB, if_neg h]
  | cons d r' =>
    have hn : ¬ (c = 194 ∧ 128 ≤ d ∧ d < 160) := fun hh => h2 hh.1 d rfl ⟨hh.2.1, hh.2.2⟩
    simp only [plB, if_neg h, if_neg hn]

theorem qt_len : ∀ (n : Nat) (l : List Int), l.length ≤ n → l.length ≤ (qt l).length ∧ (qt l).length ≤ 6 * l.length ∧ ((qt l).length = l.length ↔ plB l = true) := by
  intro n
  induction n with
  | zero => intro l h; obtain rfl : l = [] := List.eq_nil_of_length_eq_zero (by omega); simp [qt, plB]
  | succ n ih =>
    intro l h
    match l, h with
    | [], _ => simp [qt, plB]
    | c :: r, h =>
      simp only [List.length_cons] at h
      rcases qt_cases c r with ⟨d, r', rfl, rfl, hd, e⟩ | ⟨hn, e⟩
      · have := ih r' (by simp at h; omega)
        rw [e, plB_pair _ hd]
        simp only [List.length_append, ue_len, List.length_cons]
        refine ⟨by omega, by omega, by omega, fun h => by cases h⟩
      · have h1 := ih r (by omega)
        have h2 := one_len c
        rw [e]
        simp only [List.length_append, List.length_cons]
        refine ⟨by omega, by omega, ?_⟩
        by_cases hb : c = 34 ∨ c = 92 ∨ c < 32 ∨ c = 127
        · rw [plB_bad r hb]
          have : 2 ≤ (one c).length := by
            unfold one
            split
            · simp
            · rw [if_pos (by omega)]; simp [ue]
          exact ⟨fun h => by omega, fun h => by cases h⟩
        · rw [plB_next hb hn]
          have : (one c).length = 1 := by
            unfold one
            rw [if_neg (by omega), if_neg (by omega)]; rfl
          rw [← h1.2.2]
          omega

/-! ### Where two texts meet -/
theorem last_tail {c : Int} {r : List Int} {x : Int} (h : r.getLast? = some x) : (c :: r).getLast? = some x := by
  cases r with
  | nil => simp at h
  | cons d r' => simpa [List.getLast?_cons_cons] using h

theorem qt_app : ∀ (n : Nat) (t u : List Int), t.length ≤ n → (t.getLast? = some 194 → ∀ d, u.head? = some d → ¬ Rg d) → qt (t ++ u) = qt t ++ qt u := by
  intro n
  induction n with
  | zero => intro t u h _; obtain rfl : t = [] := List.eq_nil_of_length_eq_zero (by omega); simp [qt]
  | succ n ih =>
    intro t u h hj
    match t, h, hj with
    | [], _, _ => simp [qt]
    | c :: r, h, hj =>
      simp only [List.length_cons] at h
      rcases qt_cases c r with ⟨d, r', rfl, rfl, hd, e⟩ | ⟨hn, e⟩
      · rw [e]
        simp only [List.cons_append]
        rw [qt_pair _ hd, ih r' u (by simp at h; omega) (fun hl => hj (last_tail (last_tail hl)))]
        simp
      · rw [e]
        simp only [List.cons_append]
        have hn' : c = 194 → ∀ d, (r ++ u).head? = some d → ¬ Rg d := fun hc d hd => by
          cases r with
          | nil => simp at hd; exact hj (by simp [hc]) d hd
          | cons x r' => simp at hd; subst hd; exact hn hc _ rfl
        rw [qt_one hn', ih r u (by omega) (fun hl => hj (last_tail hl))]
        simp

/-- Quoting is split at a joint that is no C1 control. -/
theorem qt_split {t u : List Int} (h : t.getLast? = some 194 → ∀ d, u.head? = some d → ¬ Rg d) : qt (t ++ u) = qt t ++ qt u := qt_app _ t u (Nat.le_refl _) h
theorem one_194 : one 194 = [194] := by simp [one]
theorem one_rg {d : Int} (h : Rg d) : one d = [d] := by unfold Rg at h; unfold one; rw [if_neg (by omega), if_neg (by omega)]
/-- At a joint that is a C1 control. -/
theorem qt_joint {t u : List Int} {d : Int} (h : Rg d) : qt ((t ++ [194]) ++ d :: u) = qt t ++ ue d ++ qt u ∧ qt (t ++ [194]) = qt t ++ [194] ∧ qt (d :: u) = d :: qt u := by
  have h194 : ¬ Rg 194 := by unfold Rg; omega
  have e1 : qt (t ++ [194]) = qt t ++ qt [194] := qt_split (fun _ d hd => by simp at hd; subst hd; exact h194)
  have e2 : qt [194] = [194] := by rw [qt_one (by simp)]; simp [qt, one_194]
  have e3 : qt (d :: u) = d :: qt u := by
    rw [qt_one (fun e => absurd h (by subst e; exact h194)), one_rg h]; rfl
  refine ⟨?_, by rw [e1, e2], e3⟩
  have e4 : qt (t ++ (194 :: d :: u)) = qt t ++ qt (194 :: d :: u) := qt_split (fun _ x hd => by simp at hd; subst hd; exact h194)
  rw [List.append_assoc]
  simp only [List.cons_append, List.nil_append]
  rw [e4, qt_pair _ h]
  simp

/-! ### The head of what is quoted -/
theorem qt_head {l : List Int} {h : Int} (e : (qt l).head? = some h) (hr : Rg h) : l.head? = some h := by
  cases l with
  | nil => simp [qt] at e
  | cons c r =>
    unfold Rg at hr
    rcases qt_cases c r with ⟨d, r', rfl, rfl, hd, e1⟩ | ⟨hn, e1⟩
    · rw [e1] at e; simp [ue] at e; omega
    · rw [e1] at e
      unfold one at e
      split at e
      · simp at e; omega
      · split at e
        · simp [ue] at e; omega
        · simpa using e

end Go.Proofs.Qxb6601998aMods.Kp
