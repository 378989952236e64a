/-
  PLAIN MATHEMATICS of seat b6601466aM: nothing of Go here.
-/
namespace Go.Proofs.Qxb6601466aMods.Kp

/-- The byte at place i. -/
def Bt (l : List Int) (i : Nat) : Int := l.getD i 0

theorem bt_drop {l : List Int} {i : Nat} (h : i < l.length) : l.drop i = Bt l i :: l.drop (i + 1) := by
  rw [List.drop_eq_getElem_cons h]
  simp [Bt, List.getD, h]

theorem bt_take {l : List Int} {i : Nat} (h : i < l.length) : l.take (i + 1) = l.take i ++ [Bt l i] := by
  rw [List.take_succ_eq_append_getElem h]
  simp [Bt, List.getD, h]

theorem bt_get {l : List Int} {i : Nat} (h : i < l.length) : l[i]? = some (Bt l i) := by
  simp [Bt, List.getD, h]

theorem bt_out {l : List Int} {i : Nat} (h : l.length ≤ i) : Bt l i = 0 := by
  simp [Bt, List.getD, h]

theorem bt_ext {a b : List Int} (h : a.length = b.length) (he : ∀ i, i < a.length → Bt a i = Bt b i) : a = b := by
  apply List.ext_getElem? 
  intro i
  by_cases hi : i < a.length
  · rw [bt_get hi, bt_get (by omega), he i hi]
  · rw [List.getElem?_eq_none (by omega), List.getElem?_eq_none (by omega)]

theorem bt_range {l : List Int} (h : ∀ n ∈ l, 0 ≤ n ∧ n ≤ 255) (i : Nat) : 0 ≤ Bt l i ∧ Bt l i ≤ 255 := by
  by_cases hi : i < l.length
  · have := h l[i] (List.getElem_mem hi)
    simpa [Bt, List.getD, hi] using this
  · rw [bt_out (by omega)]; omega

/-! ### str: the scan for the first quote that no backslash covers -/
def scan : List Int → Option Nat
  | [] => none
  | c :: r =>
    if c = 34 then some 0
    else if c = 92 then
      match r with
      | [] => none
      | _ :: r' => (scan r').map (· + 2)
    else (scan r).map (· + 1)

theorem scan_q (r : List Int) : scan (34 :: r) = some 0 := by cases r <;> simp [scan]
theorem scan_b1 : scan [92] = none := by simp [scan]
theorem scan_b2 (d : Int) (r : List Int) : scan (92 :: d :: r) = (scan r).map (· + 2) := by simp [scan]
theorem scan_o (c : Int) (r : List Int) (h1 : c ≠ 34) (h2 : c ≠ 92) : scan (c :: r) = (scan r).map (· + 1) := by cases r <;> simp [scan, h1, h2]

/-- From place k on the scan ends at place j. -/
def Sc (l : List Int) (k j : Nat) : Prop := k ≤ j ∧ scan (l.drop k) = some (j - k)

theorem scan_lt : ∀ (n : Nat) (l : List Int) (j : Nat), l.length ≤ n → scan l = some j → j < l.length := by
  intro n
  induction n with
  | zero => intro l j hl h; obtain rfl : l = [] := List.eq_nil_of_length_eq_zero (by omega); simp [scan] at h
  | succ n ih =>
    intro l j hl h
    match l, hl, h with
    | [], _, h => simp [scan] at h
    | c :: r, hl, h =>
      simp only [List.length_cons] at hl ⊢
      by_cases h34 : c = 34
      · subst h34; rw [scan_q] at h; simp at h; omega
      · by_cases h92 : c = 92
        · subst h92
          match r, hl, h with
          | [], _, h => rw [scan_b1] at h; simp at h
          | d :: r', hl, h =>
            rw [scan_b2] at h
            simp only [List.length_cons] at hl ⊢
            obtain ⟨x, hx, rfl⟩ := Option.map_eq_some_iff.1 h
            have := ih r' x (by omega) hx
            omega
        · rw [scan_o c r h34 h92] at h
          obtain ⟨x, hx, rfl⟩ := Option.map_eq_some_iff.1 h
          have := ih r x (by omega) hx
          omega

theorem Sc.lt {l : List Int} {k j : Nat} (h : Sc l k j) : j < l.length := by
  have h1 := scan_lt _ _ _ (Nat.le_refl _) h.2
  have h2 := h.1
  simp only [List.length_drop] at h1
  omega

theorem Sc.cases {l : List Int} {k j : Nat} (h : Sc l k j) :
    (Bt l k = 34 ∧ k = j) ∨ (Bt l k ≠ 34 ∧ Bt l k = 92 ∧ k + 2 ≤ j ∧ Sc l (k + 2) j) ∨ (Bt l k ≠ 34 ∧ Bt l k ≠ 92 ∧ k + 1 ≤ j ∧ Sc l (k + 1) j) := by
  have hl := h.lt
  obtain ⟨hk, hs⟩ := h
  rw [bt_drop (show k < l.length by omega)] at hs
  by_cases h34 : Bt l k = 34
  · rw [h34, scan_q] at hs
    simp only [Option.some.injEq] at hs
    exact .inl ⟨h34, by omega⟩
  · by_cases h92 : Bt l k = 92
    · rw [h92] at hs
      by_cases hk1 : k + 1 < l.length
      · rw [bt_drop hk1, scan_b2] at hs
        obtain ⟨x, hx, he⟩ := Option.map_eq_some_iff.1 hs
        refine .inr (.inl ⟨h34, h92, by omega, by omega, ?_⟩)
        rw [hx]; congr 1; omega
      · rw [List.drop_eq_nil_of_le (by omega), scan_b1] at hs
        cases hs
    · rw [scan_o _ _ h34 h92] at hs
      obtain ⟨x, hx, he⟩ := Option.map_eq_some_iff.1 hs
      refine .inr (.inr ⟨h34, h92, by omega, by omega, ?_⟩)
      rw [hx]; congr 1; omega

theorem Sc.quote {l : List Int} {k : Nat} (hk : k < l.length) (h : Bt l k = 34) : Sc l k k := by
  refine ⟨Nat.le_refl _, ?_⟩
  rw [bt_drop hk, h, scan_q]; simp
theorem Sc.skip2 {l : List Int} {k j : Nat} (h : Bt l k = 92) (hs : Sc l (k + 2) j) : Sc l k j := by
  have hl := hs.lt
  have h1 := hs.1
  refine ⟨by omega, ?_⟩
  rw [bt_drop (show k < l.length by omega), h, bt_drop (show k + 1 < l.length by omega), scan_b2, hs.2]
  simp; omega
theorem Sc.skip1 {l : List Int} {k j : Nat} (h1 : Bt l k ≠ 34) (h2 : Bt l k ≠ 92) (hs : Sc l (k + 1) j) : Sc l k j := by
  have hl := hs.lt
  have h3 := hs.1
  refine ⟨by omega, ?_⟩
  rw [bt_drop (show k < l.length by omega), scan_o _ _ h1 h2, hs.2]
  simp; omega

/-! ### quoting and unquoting -/
def esc : List Int → List Int
  | [] => []
  | c :: r => if c = 34 ∨ c = 92 then 92 :: c :: esc r else c :: esc r

theorem scan_esc (t tail : List Int) : scan (esc t ++ 34 :: tail) = some (esc t).length := by
  induction t with
  | nil => simp [esc, scan_q]
  | cons c r ih =>
    by_cases h : c = 34 ∨ c = 92
    · simp [esc, h, scan_b2, ih]
    · have h1 : c ≠ 34 := fun e => h (.inl e)
      have h2 : c ≠ 92 := fun e => h (.inr e)
      simp only [esc, if_neg h, List.cons_append, scan_o _ _ h1 h2, ih]; simp

def unesc : List Int → List Int
  | [] => []
  | c :: r =>
    if c = 92 then
      match r with
      | [] => [c]
      | d :: r' => d :: unesc r'
    else c :: unesc r

theorem unesc_b1 : unesc [92] = [92] := by simp [unesc]
theorem unesc_b2 (d : Int) (r : List Int) : unesc (92 :: d :: r) = d :: unesc r := by simp [unesc]
theorem unesc_o (c : Int) (r : List Int) (h : c ≠ 92) : unesc (c :: r) = c :: unesc r := by cases r <;> simp [unesc, h]

theorem unesc_esc (t : List Int) : unesc (esc t) = t := by
  induction t with
  | nil => simp [esc, unesc]
  | cons c r ih =>
    by_cases h : c = 34 ∨ c = 92
    · simp [esc, h, unesc_b2, ih]
    · have h2 : c ≠ 92 := fun e => h (.inr e)
      simp only [esc, if_neg h, unesc_o _ _ h2, ih]

theorem esc_len (t : List Int) : t.length ≤ (esc t).length ∧ (esc t).length ≤ 2 * t.length := by
  induction t with
  | nil => simp [esc]
  | cons c r ih => by_cases h : c = 34 ∨ c = 92 <;> simp [esc, h] <;> omega

theorem esc_range {t : List Int} (h : ∀ n ∈ t, 0 ≤ n ∧ n ≤ 255) : ∀ n ∈ esc t, 0 ≤ n ∧ n ≤ 255 := by
  induction t with
  | nil => simp [esc]
  | cons c r ih =>
    intro n hn
    have hr := ih (fun n hn => h n (by simp [hn]))
    have hc := h c (by simp)
    by_cases hh : c = 34 ∨ c = 92
    · simp [esc, hh] at hn
      rcases hn with rfl | rfl | hn
      · omega
      · exact hc
      · exact hr n hn
    · simp [esc, hh] at hn
      rcases hn with rfl | hn
      · exact hc
      · exact hr n hn

theorem esc_yes {t D X : List Int} {k : Nat} (hk : k < t.length) (h : Bt t k = 34 ∨ Bt t k = 92) (e : D ++ esc (t.drop k) = X) : D ++ [92] ++ [Bt t k] ++ esc (t.drop (k + 1)) = X := by
  rw [← e, bt_drop hk]; simp [esc, h]
theorem esc_no {t D X : List Int} {k : Nat} (hk : k < t.length) (h1 : Bt t k ≠ 34) (h2 : Bt t k ≠ 92) (e : D ++ esc (t.drop k) = X) : D ++ [Bt t k] ++ esc (t.drop (k + 1)) = X := by
  rw [← e, bt_drop hk]; simp [esc, h1, h2]
theorem tail_step {t D X : List Int} {k : Nat} (hk : k < t.length) (e : D ++ t.drop k = X) : D ++ [Bt t k] ++ t.drop (k + 1) = X := by
  rw [← e, bt_drop hk]; simp
theorem une_b2 {t D X : List Int} {k : Nat} (hk : k + 1 < t.length) (h : Bt t k = 92) (e : D ++ unesc (t.drop k) = X) : D ++ [Bt t (k + 1)] ++ unesc (t.drop (k + 1 + 1)) = X := by
  rw [← e, bt_drop (show k < t.length by omega), h, bt_drop hk, unesc_b2]; simp
theorem une_b1 {t D X : List Int} {k : Nat} (hk : k + 1 = t.length) (h : Bt t k = 92) (e : D ++ unesc (t.drop k) = X) : D ++ [Bt t k] ++ unesc (t.drop (k + 1)) = X := by
  rw [← e, bt_drop (show k < t.length by omega), h, List.drop_eq_nil_of_le (by omega), unesc_b1]; simp [unesc]
theorem une_o {t D X : List Int} {k : Nat} (hk : k < t.length) (h : Bt t k ≠ 92) (e : D ++ unesc (t.drop k) = X) : D ++ [Bt t k] ++ unesc (t.drop (k + 1)) = X := by
  rw [← e, bt_drop hk, unesc_o _ _ h]; simp
theorem pre_len {D R X : List Int} (e : D ++ R = X) : D.length ≤ X.length := by rw [← e]; simp
theorem end_esc {t D X : List Int} {k : Nat} (hk : t.length ≤ k) (e : D ++ esc (t.drop k) = X) : D = X := by
  rw [← e, List.drop_eq_nil_of_le hk]; simp [esc]
theorem end_tail {t D X : List Int} {k : Nat} (hk : t.length ≤ k) (e : D ++ t.drop k = X) : D = X := by
  rw [← e, List.drop_eq_nil_of_le hk]; simp
theorem end_une {t D X : List Int} {k : Nat} (hk : t.length ≤ k) (e : D ++ unesc (t.drop k) = X) : D = X := by
  rw [← e, List.drop_eq_nil_of_le hk]; simp [unesc]
theorem sc_quoted (t tail : List Int) : Sc (34 :: esc t ++ [34] ++ tail) (0 + 1) ((esc t).length + 1) := by
  refine ⟨by omega, ?_⟩
  have h := scan_esc t tail
  simp at h ⊢
  exact h
theorem quoted_part (t tail : List Int) : ((34 :: esc t ++ [34] ++ tail).drop 1).take (esc t).length = esc t := by
  simp

/-! ### zzStrClose: the first quote with an even run of backslashes before it -/
/-- How many backslashes stand right before k, counted back no further than s. -/
def run (l : List Int) (s : Nat) : Nat → Nat
  | 0 => 0
  | k + 1 => if s ≤ k ∧ Bt l k = 92 then run l s k + 1 else 0

theorem run_yes {l : List Int} {s k : Nat} (h1 : s ≤ k) (h2 : Bt l k = 92) : run l s (k + 1) = run l s k + 1 := by simp [run, h1, h2]
theorem run_no {l : List Int} {s k : Nat} (h2 : ¬ (s ≤ k ∧ Bt l k = 92)) : run l s (k + 1) = 0 := by simp only [run, if_neg h2]
theorem run_le (l : List Int) (s : Nat) : ∀ k, run l s k ≤ k - s := by
  intro k
  induction k with
  | zero => simp [run]
  | succ k ih => by_cases h : s ≤ k ∧ Bt l k = 92
                 · rw [run_yes h.1 h.2]; omega
                 · rw [run_no h]; omega
theorem run_start (l : List Int) (s : Nat) : run l s s = 0 := by have := run_le l s s; omega

/-- The quote at j closes: it is a quote, and its run is even. -/
def Closes (l : List Int) (s j : Nat) : Prop := Bt l j = 34 ∧ run l s j % 2 = 0

theorem sc_of_closes {l : List Int} {s j : Nat} (hj : j < l.length) (hc : Closes l s j) (hmin : ∀ i, s ≤ i → i < j → ¬ Closes l s i) :
    ∀ (n i : Nat), j - i ≤ n → s ≤ i → i ≤ j → run l s i % 2 = 0 → Sc l i j := by
  intro n
  induction n with
  | zero =>
    intro i hn hs hi _
    obtain rfl : i = j := by omega
    exact Sc.quote hj hc.1
  | succ n ih =>
    intro i hn hs hi hr
    by_cases e : i = j
    · subst e; exact Sc.quote hj hc.1
    · have h34 : Bt l i ≠ 34 := fun h => hmin i hs (by omega) ⟨h, hr⟩
      by_cases h92 : Bt l i = 92
      · have h1 := run_yes (l := l) hs h92
        have hne : i + 1 ≠ j := fun e => by have := hc.2; rw [← e, h1] at this; omega
        refine Sc.skip2 h92 (ih (i + 2) (by omega) (by omega) (by omega) ?_)
        by_cases h : s ≤ i + 1 ∧ Bt l (i + 1) = 92
        · rw [show i + 2 = (i + 1) + 1 from rfl, run_yes h.1 h.2, h1]; omega
        · rw [show i + 2 = (i + 1) + 1 from rfl, run_no h]
      · refine Sc.skip1 h34 h92 (ih (i + 1) (by omega) (by omega) (by omega) ?_)
        rw [run_no (by simp [h92])]

theorem sc_of_first {l : List Int} {s j : Nat} (hs : s ≤ j) (hj : j < l.length) (hc : Closes l s j) (hmin : ∀ i, s ≤ i → i < j → ¬ Closes l s i) : Sc l s j :=
  sc_of_closes hj hc hmin _ s (Nat.le_refl _) (Nat.le_refl _) hs (by rw [run_start])

end Go.Proofs.Qxb6601466aMods.Kp
