/-
  PLAIN MATHEMATICS of seat b6601977aM: nothing of Go here.
-/
namespace Go.Proofs.Qxb6601977aMods.Kp
set_option linter.unusedVariables false

/-- The byte at place i. -/
def Bt (l : List Int) (i : Nat) : Int := l.getD i 0

theorem bt_drop {l : List Int} {i : Nat} (h : i < l.length) : l.drop i = Bt l i :: l.drop (i + 1) := by
  rw [List.drop_eq_getElem_cons h]
  simp [Bt, List.getD, h]

theorem bt_take {l : List Int} {i : Nat} (h : i < l.length) : l.take (i + 1) = l.take i ++ [Bt l i] := by
  rw [List.take_succ_eq_append_getElem h]
  simp [Bt, List.getD, h]

theorem bt_get {l : List Int} {i : Nat} (h : i < l.length) : l[i]? = some (Bt l i) := by
  simp [Bt, List.getD, h]

theorem bt_out {l : List Int} {i : Nat} (h : l.length ≤ i) : Bt l i = 0 := by
  simp [Bt, List.getD, h]

theorem bt_ext {a b : List Int} (h : a.length = b.length) (he : ∀ i, i < a.length → Bt a i = Bt b i) : a = b := by
  apply List.ext_getElem? 
  intro i
  by_cases hi : i < a.length
  · rw [bt_get hi, bt_get (by omega), he i hi]
  · rw [List.getElem?_eq_none (by omega), List.getElem?_eq_none (by omega)]

theorem bt_range {l : List Int} (h : ∀ n ∈ l, 0 ≤ n ∧ n ≤ 255) (i : Nat) : 0 ≤ Bt l i ∧ Bt l i ≤ 255 := by
  by_cases hi : i < l.length
  · have := h l[i] (List.getElem_mem hi)
    simpa [Bt, List.getD, hi] using this
  · rw [bt_out (by omega)]; omega

theorem pre_len {D R X : List Int} (e : D ++ R = X) : D.length ≤ X.length := by rw [← e]; simp

/-! ### Numbers in base 58, least digit first -/
def v58 : List Int → Int
  | [] => 0
  | d :: r => d + 58 * v58 r

/-- Each is a digit, and the last is not 0. -/
def Cn : List Int → Prop
  | [] => True
  | d :: r => (0 ≤ d ∧ d < 58) ∧ (r = [] → d ≠ 0) ∧ Cn r

theorem cn_pos : ∀ (l : List Int), Cn l → 0 ≤ v58 l ∧ (l ≠ [] → 0 < v58 l) := by
  intro l
  induction l with
  | nil => intro _; simp [v58]
  | cons d r ih =>
    intro h
    obtain ⟨h1, h2, h3⟩ := h
    have h4 := ih h3
    simp only [v58]
    refine ⟨by omega, fun _ => ?_⟩
    by_cases hr : r = []
    · subst hr; have := h2 rfl; simp [v58]; omega
    · have := h4.2 hr; omega

theorem cn_unique : ∀ (a b : List Int), Cn a → Cn b → v58 a = v58 b → a = b := by
  intro a
  induction a with
  | nil =>
    intro b _ hb e
    cases b with
    | nil => rfl
    | cons d r => have := (cn_pos _ hb).2 (by simp); simp only [v58] at e this; omega
  | cons d r ih =>
    intro b ha hb e
    cases b with
    | nil => have := (cn_pos _ ha).2 (by simp); simp only [v58] at e this; omega
    | cons d' r' =>
      simp only [v58] at e
      obtain ⟨a1, _, a3⟩ := ha
      obtain ⟨b1, _, b3⟩ := hb
      have h1 : d = d' := by omega
      have h2 : v58 r = v58 r' := by omega
      rw [h1, ih r' a3 b3 h2]

/-! ### encodeBase58: times 256, and a byte added -/
def mulF : List Int → Int → List Int × Int
  | [], c => ([], c)
  | d :: r, c => let m := mulF r ((c + d * 256) / 58); ((c + d * 256) % 58 :: m.1, m.2)
/-- The digits of a carry. -/
def tailD (c : Int) : List Int := if c ≤ 0 then [] else if c < 58 then [c] else [c % 58, c / 58]
theorem tailD_zero {c : Int} (h : c ≤ 0) : tailD c = [] := by simp [tailD, h]
theorem tailD_pos {c : Int} (h : 0 < c) (h2 : c ≤ 255) : tailD c = (c % 58) :: tailD (c / 58) := by
  unfold tailD
  by_cases hc : c < 58
  · rw [if_neg (by omega), if_pos hc, if_pos (by omega)]
    congr 1; omega
  · rw [if_neg (by omega), if_neg hc, if_neg (by omega), if_pos (by omega)]

def step (ds : List Int) (c : Int) : List Int := (mulF ds c).1 ++ tailD (mulF ds c).2

theorem mulF_cons (d : Int) (r : List Int) (c : Int) : (mulF (d :: r) c).1 = (c + d * 256) % 58 :: (mulF r ((c + d * 256) / 58)).1 ∧ (mulF (d :: r) c).2 = (mulF r ((c + d * 256) / 58)).2 := ⟨rfl, rfl⟩
theorem mulF_len : ∀ (ds : List Int) (c : Int), (mulF ds c).1.length = ds.length := by
  intro ds
  induction ds with
  | nil => intro c; rfl
  | cons d r ih => intro c; rw [(mulF_cons d r c).1]; simp [ih]
theorem mulF_carry : ∀ (ds : List Int) (c : Int), (∀ d ∈ ds, 0 ≤ d ∧ d < 58) → 0 ≤ c → c ≤ 255 → 0 ≤ (mulF ds c).2 ∧ (mulF ds c).2 ≤ 255 := by
  intro ds
  induction ds with
  | nil => intro c _ h1 h2; exact ⟨h1, h2⟩
  | cons d r ih =>
    intro c h h1 h2
    have := h d (by simp)
    rw [(mulF_cons d r c).2]
    exact ih _ (fun x hx => h x (by simp [hx])) (by omega) (by omega)

theorem cn_digs : ∀ {l : List Int}, Cn l → ∀ d ∈ l, 0 ≤ d ∧ d < 58 := by
  intro l
  induction l with
  | nil => intro _ d hd; cases hd
  | cons x r ih =>
    intro h d hd
    rcases List.mem_cons.1 hd with rfl | hd
    · exact h.1
    · exact ih h.2.2 d hd

theorem cn_tailD {c : Int} (h1 : c ≤ 255) : Cn (tailD c) := by
  unfold tailD
  split
  · trivial
  · split
    · exact ⟨by omega, fun _ => by omega, trivial⟩
    · exact ⟨by omega, fun h => (by cases h), by omega, fun _ => by omega, trivial⟩
theorem v58_tailD {c : Int} (h0 : 0 ≤ c) (h1 : c ≤ 255) : v58 (tailD c) = c := by
  unfold tailD
  split
  · simp [v58]; omega
  · split
    · simp [v58]
    · simp [v58]; omega

theorem step_cons (d : Int) (r : List Int) (c : Int) : step (d :: r) c = (c + d * 256) % 58 :: step r ((c + d * 256) / 58) := rfl
theorem step_v58 : ∀ (ds : List Int) (c : Int), (∀ d ∈ ds, 0 ≤ d ∧ d < 58) → 0 ≤ c → c ≤ 255 → v58 (step ds c) = 256 * v58 ds + c := by
  intro ds
  induction ds with
  | nil => intro c _ h1 h2; simp only [step, mulF, List.nil_append, v58]; rw [v58_tailD h1 h2]; omega
  | cons d r ih =>
    intro c h h1 h2
    have hd := h d (by simp)
    rw [step_cons]
    simp only [v58]
    rw [ih _ (fun x hx => h x (by simp [hx])) (by omega) (by omega)]
    omega
theorem step_cn : ∀ (ds : List Int) (c : Int), Cn ds → 0 ≤ c → c ≤ 255 → Cn (step ds c) := by
  intro ds
  induction ds with
  | nil => intro c _ h1 h2; exact cn_tailD h2
  | cons d r ih =>
    intro c h h1 h2
    obtain ⟨a1, a2, a3⟩ := h
    rw [step_cons]
    have hi := ih ((c + d * 256) / 58) a3 (by omega) (by omega)
    refine ⟨by omega, fun he => ?_, hi⟩
    exfalso
    by_cases hr : r = []
    · subst hr
      have hd := a2 rfl
      simp only [step, mulF, List.nil_append] at he
      rw [tailD_pos (by omega) (by omega)] at he
      cases he
    · have hl := congrArg List.length he
      simp only [step, List.length_append, mulF_len, List.length_nil] at hl
      exact hr (List.eq_nil_of_length_eq_zero (by omega))
theorem step_len (ds : List Int) (c : Int) : (step ds c).length ≤ ds.length + 2 := by
  have : (tailD (mulF ds c).2).length ≤ 2 := by unfold tailD; split <;> (try split) <;> simp
  simp only [step, List.length_append, mulF_len]
  omega

/-! ### Numbers, greatest digit first -/
def hb (B : Int) : Int → List Int → Int
  | a, [] => a
  | a, x :: t => hb B (a * B + x) t
theorem hb_app (B : Int) : ∀ (x y : List Int) (a : Int), hb B a (x ++ y) = hb B (hb B a x) y := by
  intro x
  induction x with
  | nil => intro y a; rfl
  | cons c r ih => intro y a; exact ih y _

/-- encodeBase58's digits. -/
def enc : List Int → List Int → List Int
  | ds, [] => ds
  | ds, c :: r => enc (step ds c) r
theorem enc_app : ∀ (x y : List Int) (ds : List Int), enc ds (x ++ y) = enc (enc ds x) y := by
  intro x
  induction x with
  | nil => intro y ds; rfl
  | cons c r ih => intro y ds; exact ih y _
theorem enc_ok : ∀ (b ds : List Int), (∀ c ∈ b, 0 ≤ c ∧ c ≤ 255) → Cn ds → Cn (enc ds b) ∧ v58 (enc ds b) = hb 256 (v58 ds) b ∧ (enc ds b).length ≤ ds.length + 2 * b.length := by
  intro b
  induction b with
  | nil => intro ds _ h; exact ⟨h, rfl, by simp [enc]⟩
  | cons c r ih =>
    intro ds hb hc
    have h1 := hb c (by simp)
    have h2 := ih (step ds c) (fun x hx => hb x (by simp [hx])) (step_cn ds c hc h1.1 h1.2)
    have h3 := step_v58 ds c (cn_digs hc) h1.1 h1.2
    have h4 := step_len ds c
    refine ⟨h2.1, ?_, ?_⟩
    · show v58 (enc (step ds c) r) = _
      rw [h2.2.1, h3]
      show _ = Kp.hb 256 (v58 ds * 256 + c) r
      rw [Int.mul_comm]
    · show (enc (step ds c) r).length ≤ _
      have := h2.2.2
      simp only [List.length_cons]
      omega

/-! ### modelEncode58: division by 58, greatest byte first -/
def divF : Int → List Int → List Int × Int
  | r, [] => ([], r)
  | r, x :: t => let m := divF ((r * 256 + x) % 58) t; ((r * 256 + x) / 58 :: m.1, m.2)
theorem divF_cons (r x : Int) (t : List Int) : (divF r (x :: t)).1 = (r * 256 + x) / 58 :: (divF ((r * 256 + x) % 58) t).1 ∧ (divF r (x :: t)).2 = (divF ((r * 256 + x) % 58) t).2 := ⟨rfl, rfl⟩
theorem divF_len : ∀ (l : List Int) (r : Int), (divF r l).1.length = l.length := by
  intro l
  induction l with
  | nil => intro r; rfl
  | cons x t ih => intro r; rw [(divF_cons r x t).1]; simp [ih]
theorem divF_ok : ∀ (l : List Int) (r q : Int), (∀ x ∈ l, 0 ≤ x ∧ x ≤ 255) → 0 ≤ r → r < 58 → hb 256 (58 * q + r) l = 58 * hb 256 q (divF r l).1 + (divF r l).2 ∧ 0 ≤ (divF r l).2 ∧ (divF r l).2 < 58 ∧ ∀ y ∈ (divF r l).1, 0 ≤ y ∧ y ≤ 255 := by
  intro l
  induction l with
  | nil => intro r q _ h1 h2; exact ⟨rfl, h1, h2, fun y hy => by cases hy⟩
  | cons x t ih =>
    intro r q h h1 h2
    have hx := h x (by simp)
    have hi := ih ((r * 256 + x) % 58) (q * 256 + (r * 256 + x) / 58) (fun y hy => h y (by simp [hy])) (by omega) (by omega)
    rw [(divF_cons r x t).1, (divF_cons r x t).2]
    refine ⟨?_, hi.2.1, hi.2.2.1, ?_⟩
    · show hb 256 ((58 * q + r) * 256 + x) t = 58 * hb 256 (q * 256 + (r * 256 + x) / 58) _ + _
      rw [← hi.1]
      congr 1
      omega
    · intro y hy
      rcases List.mem_cons.1 hy with rfl | hy
      · omega
      · exact hi.2.2.2 y hy

/-! ### The digits' characters -/
def al (d : Int) : Int := if d < 9 then 49 + d else if d < 17 then 65 + d - 9 else if d < 22 then 74 + d - 17 else if d < 33 then 80 + d - 22 else if d < 44 then 97 + d - 33 else 109 + d - 44
theorem al_mono {x y : Int} (h : x < y) (h1 : 0 ≤ x) (h2 : y < 58) : al x < al y := by
  unfold al
  repeat' split
  all_goals omega
theorem al_byte {x : Int} (h1 : 0 ≤ x) (h2 : x < 58) : 0 ≤ al x ∧ al x ≤ 255 := by
  unfold al
  repeat' split
  all_goals omega

/-! ### Comparing -/
def cmpI (x y : Int) : Int := if x < y then -1 else if x = y then 0 else 1
/-- The first difference decides. -/
def lex : List Int → List Int → Int
  | x :: r, y :: t => if x = y then lex r t else if x < y then -1 else 1
  | _, _ => 0
/-- The shorter is less; else the first difference decides. -/
def cmpL (a b : List Int) : Int := if a.length < b.length then -1 else if a.length = b.length then lex a b else 1

def Dg (B : Int) (l : List Int) : Prop := ∀ x ∈ l, 0 ≤ x ∧ x < B

theorem hb_lt {B : Int} (hB : B = 58 ∨ B = 256) : ∀ (x y : List Int) (a a' : Int), x.length = y.length → Dg B x → Dg B y → a < a' → hb B a x < hb B a' y := by
  intro x
  induction x with
  | nil => intro y a a' hl _ _ h; obtain rfl : y = [] := List.eq_nil_of_length_eq_zero (by simpa using hl.symm); exact h
  | cons c r ih =>
    intro y a a' hl h1 h2 h
    cases y with
    | nil => simp at hl
    | cons d t =>
      have e1 := h1 c (by simp)
      have e2 := h2 d (by simp)
      refine ih t _ _ (by simpa using hl) (fun z hz => h1 z (by simp [hz])) (fun z hz => h2 z (by simp [hz])) ?_
      rcases hB with rfl | rfl <;> omega
theorem hb_nn {B : Int} (hB : B = 58 ∨ B = 256) : ∀ (x : List Int) (a : Int), 0 ≤ a → Dg B x → a ≤ hb B a x := by
  intro x
  induction x with
  | nil => intro a _ _; exact Int.le_refl _
  | cons c r ih =>
    intro a h0 h1
    have e1 := h1 c (by simp)
    have := ih (a * B + c) (by rcases hB with rfl | rfl <;> omega) (fun z hz => h1 z (by simp [hz]))
    show a ≤ hb B (a * B + c) r
    rcases hB with rfl | rfl <;> omega

theorem lex_ok {B : Int} (hB : B = 58 ∨ B = 256) : ∀ (x y : List Int) (a : Int), x.length = y.length → Dg B x → Dg B y → lex x y = cmpI (hb B a x) (hb B a y) := by
  intro x
  induction x with
  | nil => intro y a hl _ _; obtain rfl : y = [] := List.eq_nil_of_length_eq_zero (by simpa using hl.symm); simp [lex, hb, cmpI]
  | cons c r ih =>
    intro y a hl h1 h2
    cases y with
    | nil => simp at hl
    | cons d t =>
      have hl' : r.length = t.length := by simpa using hl
      have g1 : Dg B r := fun z hz => h1 z (by simp [hz])
      have g2 : Dg B t := fun z hz => h2 z (by simp [hz])
      by_cases e : c = d
      · subst e
        simp only [lex, if_true]
        exact ih t _ hl' g1 g2
      · simp only [lex, if_neg e]
        by_cases hlt : c < d
        · have := hb_lt hB r t (a * B + c) (a * B + d) hl' g1 g2 (by omega)
          rw [if_pos hlt, cmpI]
          show _ = if hb B (a * B + c) r < hb B (a * B + d) t then _ else _
          rw [if_pos this]
        · have := hb_lt hB t r (a * B + d) (a * B + c) hl'.symm g2 g1 (by omega)
          rw [if_neg hlt, cmpI]
          show _ = if hb B (a * B + c) r < hb B (a * B + d) t then _ else if hb B (a * B + c) r = hb B (a * B + d) t then _ else _
          rw [if_neg (by omega), if_neg (by omega)]

/-- No leading zero. -/
def Nz (l : List Int) : Prop := ∀ x, l.head? = some x → x ≠ 0

theorem short_lt {B : Int} (hB : B = 58 ∨ B = 256) {x y : List Int} (hx : Dg B x) (hy : Dg B y) (hz : Nz y) (hl : x.length < y.length) : hb B 0 x < hb B 0 y := by
  have e : y = y.take (y.length - x.length) ++ y.drop (y.length - x.length) := (List.take_append_drop _ _).symm
  rw [e, hb_app]
  refine hb_lt hB x _ _ _ (by simp; omega) hx (fun z hz => hy z (List.drop_subset _ _ hz)) ?_
  cases y with
  | nil => simp at hl
  | cons c r =>
    have hc := hz c rfl
    have hc2 := hy c (by simp)
    obtain ⟨m, hm⟩ : ∃ m, (c :: r).length - x.length = m + 1 := ⟨(c :: r).length - x.length - 1, by omega⟩
    rw [hm, List.take_succ_cons]
    show 0 < hb B (0 * B + c) (r.take m)
    have := hb_nn hB (r.take m) (0 * B + c) (by rcases hB with rfl | rfl <;> omega) (fun z hz => hy z (by have := List.take_subset _ _ hz; simp [this]))
    rcases hB with rfl | rfl <;> omega

theorem cmpL_ok {B : Int} (hB : B = 58 ∨ B = 256) {x y : List Int} (hx : Dg B x) (hy : Dg B y) (nx : Nz x) (ny : Nz y) : cmpL x y = cmpI (hb B 0 x) (hb B 0 y) := by
  unfold cmpL
  by_cases h1 : x.length < y.length
  · have := short_lt hB hx hy ny h1
    rw [if_pos h1, cmpI, if_pos this]
  · rw [if_neg h1]
    by_cases h2 : x.length = y.length
    · rw [if_pos h2]; exact lex_ok hB x y 0 h2 hx hy
    · have := short_lt hB hy hx nx (by omega)
      rw [if_neg h2, cmpI, if_neg (by omega), if_neg (by omega)]

theorem lex_al : ∀ (x y : List Int), Dg 58 x → Dg 58 y → lex (x.map al) (y.map al) = lex x y := by
  intro x
  induction x with
  | nil => intro y _ _; simp [lex]
  | cons c r ih =>
    intro y h1 h2
    cases y with
    | nil => simp [lex]
    | cons d t =>
      have e1 := h1 c (by simp)
      have e2 := h2 d (by simp)
      have hi := ih t (fun z hz => h1 z (by simp [hz])) (fun z hz => h2 z (by simp [hz]))
      simp only [List.map_cons, lex]
      by_cases e : c = d
      · subst e; simp only [if_true]; exact hi
      · by_cases hlt : c < d
        · have := al_mono hlt e1.1 e2.2
          rw [if_neg e, if_pos hlt, if_neg (by omega), if_pos this]
        · have := al_mono (show d < c by omega) e2.1 e1.2
          rw [if_neg e, if_neg hlt, if_neg (by omega), if_neg (by omega)]
theorem cmpL_al {x y : List Int} (hx : Dg 58 x) (hy : Dg 58 y) : cmpL (x.map al) (y.map al) = cmpL x y := by
  unfold cmpL
  simp only [List.length_map, lex_al x y hx hy]

/-! ### From the least digit first to the greatest first -/
theorem v58_rev : ∀ (l : List Int), hb 58 0 l.reverse = v58 l := by
  intro l
  induction l with
  | nil => rfl
  | cons d r ih =>
    rw [List.reverse_cons, hb_app, ih]
    show v58 r * 58 + d = d + 58 * v58 r
    omega
theorem cn_last : ∀ (l : List Int), Cn l → ∀ x, l.getLast? = some x → x ≠ 0 := by
  intro l
  induction l with
  | nil => intro _ x hx; simp at hx
  | cons d r ih =>
    intro h x hx
    cases r with
    | nil => simp at hx; subst hx; exact h.2.1 rfl
    | cons e t => rw [List.getLast?_cons_cons] at hx; exact ih h.2.2 x hx
theorem cn_nz {l : List Int} (h : Cn l) : Nz l.reverse := fun x hx => cn_last l h x (by rwa [List.head?_reverse] at hx)
theorem cn_dg {l : List Int} (h : Cn l) : Dg 58 l.reverse := fun x hx => cn_digs h x (by simpa using hx)

/-- A list without its leading zeros. -/
def strip : List Int → List Int
  | [] => []
  | x :: r => if x = 0 then strip r else x :: r
theorem strip_hb : ∀ (l : List Int), hb 256 0 (strip l) = hb 256 0 l := by
  intro l
  induction l with
  | nil => rfl
  | cons x r ih =>
    by_cases h : x = 0
    · subst h
      simp only [strip, if_true]
      rw [ih]
      rfl
    · simp only [strip, if_neg h]
theorem strip_nz : ∀ (l : List Int), Nz (strip l) := by
  intro l
  induction l with
  | nil => intro x hx; simp [strip] at hx
  | cons x r ih =>
    by_cases h : x = 0
    · simp only [strip, if_pos h]; exact ih
    · simp only [strip, if_neg h]; intro y hy; simp at hy; omega
theorem strip_drop {l : List Int} {k : Nat} (h0 : ∀ i, i < k → Bt l i = 0) (hk : k ≤ l.length) (h1 : k < l.length → Bt l k ≠ 0) : strip l = l.drop k := by
  induction k generalizing l with
  | zero =>
    cases l with
    | nil => rfl
    | cons x r => have := h1 (by simp); simp [Bt] at this; simp [strip, this]
  | succ k ih =>
    cases l with
    | nil => simp at hk
    | cons x r =>
      have hx := h0 0 (by omega)
      simp [Bt] at hx
      subst hx
      simp only [strip, if_true, List.drop_succ_cons]
      refine ih (fun i hi => ?_) (by simpa using hk) (fun hl => ?_)
      · have := h0 (i + 1) (by omega); simpa [Bt] using this
      · have := h1 (by simpa using hl); simpa [Bt] using this

theorem nz_pos {l : List Int} (hd : Dg 256 l) (hz : Nz l) (hl : 0 < l.length) : 0 < hb 256 0 l := by
  have := short_lt (.inr rfl) (x := []) (fun x hx => by cases hx) hd hz (by simpa using hl)
  simpa [hb] using this

/-- One round of the division: the next digit. -/
theorem div_round {num R : List Int} (hd : Dg 256 num) (hz : Nz num) (hl : 0 < num.length) (hR : Cn R) (hv : v58 R = hb 256 0 num) :
    ∃ R', R = (divF 0 num).2 :: R' ∧ Cn R' ∧ v58 R' = hb 256 0 (divF 0 num).1 := by
  have hp := nz_pos hd hz hl
  have hk := divF_ok num 0 0 (fun x hx => by have := hd x hx; omega) (by omega) (by omega)
  cases R with
  | nil => simp [v58] at hv; omega
  | cons d R' =>
    simp only [v58] at hv
    obtain ⟨a1, _, a3⟩ := hR
    have e : hb 256 0 num = 58 * hb 256 0 (divF 0 num).1 + (divF 0 num).2 := by simpa using hk.1
    refine ⟨R', ?_, a3, by omega⟩
    congr 1
    omega

end Go.Proofs.Qxb6601977aMods.Kp
