/-
  PLAIN MATHEMATICS of seat b6601466aM, second part: the skip machine, and the grammar's machine that ends where it ends.
-/
import Derived.Test.Qxb6601466aModsPlain
namespace Go.Proofs.Qxb6601466aMods.Kp

def wsB (c : Int) : Bool := c == 32 || c == 9 || c == 10 || c == 13
def endsB (c : Int) : Bool := c == 44 || c == 58 || c == 93 || c == 125 || wsB c
theorem wsB_iff {c : Int} : wsB c = true ↔ c = 32 ∨ c = 9 ∨ c = 10 ∨ c = 13 := by simp [wsB]; omega
theorem wsB_no {c : Int} (h : c ≠ 32 ∧ c ≠ 9 ∧ c ≠ 10 ∧ c ≠ 13) : wsB c = false := by simp [wsB]; omega
theorem endsB_iff {c : Int} : endsB c = true ↔ c = 44 ∨ c = 58 ∨ c = 93 ∨ c = 125 ∨ c = 32 ∨ c = 9 ∨ c = 10 ∨ c = 13 := by simp [endsB, wsB]; omega
theorem endsB_no {c : Int} (h : c ≠ 44 ∧ c ≠ 58 ∧ c ≠ 93 ∧ c ≠ 125 ∧ c ≠ 32 ∧ c ≠ 9 ∧ c ≠ 10 ∧ c ≠ 13) : endsB c = false := by simp [endsB, wsB]; omega
theorem endsB_ws {c : Int} (h : wsB c = true) : endsB c = true := by simp [endsB, h]

/-- A character of a number, of true, false, null. -/
def Lc (c : Int) : Prop := c ≠ 34 ∧ c ≠ 91 ∧ c ≠ 123 ∧ c ≠ 44 ∧ c ≠ 58 ∧ c ≠ 93 ∧ c ≠ 125 ∧ c ≠ 32 ∧ c ≠ 9 ∧ c ≠ 10 ∧ c ≠ 13
theorem Lc.ends {c : Int} (h : Lc c) : endsB c = false := endsB_no (by unfold Lc at h; omega)
theorem Lc.ws {c : Int} (h : Lc c) : wsB c = false := wsB_no (by unfold Lc at h; omega)

/-- From i on the white space ends at j. -/
def WS (l : List Int) (i j : Nat) : Prop := i ≤ j ∧ j ≤ l.length ∧ (∀ k, i ≤ k → k < j → wsB (Bt l k) = true) ∧ (j < l.length → wsB (Bt l j) = false)
theorem WS.here {l : List Int} {i : Nat} (hi : i < l.length) (h : wsB (Bt l i) = false) : WS l i i := ⟨Nat.le_refl _, by omega, fun k h1 h2 => by omega, fun _ => h⟩
theorem WS.join {l : List Int} {i j k : Nat} (h1 : WS l i j) (h2 : WS l j k) : WS l i k := by
  refine ⟨by have := h1.1; have := h2.1; omega, h2.2.1, fun m a b => ?_, h2.2.2.2⟩
  by_cases h : m < j
  · exact h1.2.2.1 m a h
  · exact h2.2.2.1 m (by omega) b

/-- The characters of a literal from i to r. -/
def LitTo (l : List Int) (i r : Nat) : Prop := i < r ∧ r ≤ l.length ∧ ∀ k, i ≤ k → k < r → Lc (Bt l k)
/-- What may stand behind a literal. -/
def End (l : List Int) (i : Nat) : Prop := l.length ≤ i ∨ endsB (Bt l i) = true

/-- The machine of skip: from place p at depth d it ends at e, in f rounds at most. -/
def Run (l : List Int) : Nat → Nat → Nat → Nat → Prop
  | 0, _, _, _ => False
  | f + 1, p, d, e => ∃ q, WS l p q ∧ q < l.length ∧
      (((Bt l q = 123 ∨ Bt l q = 91) ∧ Run l f (q + 1) (d + 1) e) ∨
       ((Bt l q = 125 ∨ Bt l q = 93) ∧ 1 ≤ d ∧ ((d = 1 ∧ e = q + 1) ∨ (2 ≤ d ∧ Run l f (q + 1) (d - 1) e))) ∨
       ((Bt l q = 44 ∨ Bt l q = 58) ∧ Run l f (q + 1) d e) ∨
       (Bt l q = 34 ∧ ∃ j, Sc l (q + 1) j ∧ ((d = 0 ∧ e = j + 1) ∨ (1 ≤ d ∧ Run l f (j + 1) d e))) ∨
       (∃ r, LitTo l q r ∧ End l r ∧ ((d = 0 ∧ e = r) ∨ (1 ≤ d ∧ Run l f r d e))))
def RunE (l : List Int) (p d e : Nat) : Prop := ∃ f, Run l f p d e

theorem RunE.cases {l : List Int} {p d e : Nat} (h : RunE l p d e) : ∃ q, WS l p q ∧ q < l.length ∧
      (((Bt l q = 123 ∨ Bt l q = 91) ∧ RunE l (q + 1) (d + 1) e) ∨
       ((Bt l q = 125 ∨ Bt l q = 93) ∧ 1 ≤ d ∧ ((d = 1 ∧ e = q + 1) ∨ (2 ≤ d ∧ RunE l (q + 1) (d - 1) e))) ∨
       ((Bt l q = 44 ∨ Bt l q = 58) ∧ RunE l (q + 1) d e) ∨
       (Bt l q = 34 ∧ ∃ j, Sc l (q + 1) j ∧ ((d = 0 ∧ e = j + 1) ∨ (1 ≤ d ∧ RunE l (j + 1) d e))) ∨
       (∃ r, LitTo l q r ∧ End l r ∧ ((d = 0 ∧ e = r) ∨ (1 ≤ d ∧ RunE l r d e)))) := by
  obtain ⟨f, hf⟩ := h
  cases f with
  | zero => exact absurd hf (by simp [Run])
  | succ f =>
    obtain ⟨q, h1, h2, h3⟩ := hf
    refine ⟨q, h1, h2, ?_⟩
    rcases h3 with ⟨a, b⟩ | ⟨a, b, c | c⟩ | ⟨a, b⟩ | ⟨a, j, b, c | c⟩ | ⟨r, a, b, c | c⟩
    · exact .inl ⟨a, f, b⟩
    · exact .inr (.inl ⟨a, b, .inl c⟩)
    · exact .inr (.inl ⟨a, b, .inr ⟨c.1, f, c.2⟩⟩)
    · exact .inr (.inr (.inl ⟨a, f, b⟩))
    · exact .inr (.inr (.inr (.inl ⟨a, j, b, .inl c⟩)))
    · exact .inr (.inr (.inr (.inl ⟨a, j, b, .inr ⟨c.1, f, c.2⟩⟩)))
    · exact .inr (.inr (.inr (.inr ⟨r, a, b, .inl c⟩)))
    · exact .inr (.inr (.inr (.inr ⟨r, a, b, .inr ⟨c.1, f, c.2⟩⟩)))

theorem RunE.ws {l : List Int} {i j d e : Nat} (h1 : WS l i j) (h : RunE l j d e) : RunE l i d e := by
  obtain ⟨f, hf⟩ := h
  cases f with
  | zero => exact absurd hf (by simp [Run])
  | succ f =>
    obtain ⟨q, h2, h3, h4⟩ := hf
    exact ⟨f + 1, q, h1.join h2, h3, h4⟩
theorem RunE.opn {l : List Int} {i q d e : Nat} (h1 : WS l i q) (h2 : q < l.length) (h3 : Bt l q = 123 ∨ Bt l q = 91) (h : RunE l (q + 1) (d + 1) e) : RunE l i d e := by
  obtain ⟨f, hf⟩ := h
  exact ⟨f + 1, q, h1, h2, .inl ⟨h3, hf⟩⟩
theorem RunE.cls1 {l : List Int} {i q : Nat} (h1 : WS l i q) (h2 : q < l.length) (h3 : Bt l q = 125 ∨ Bt l q = 93) : RunE l i 1 (q + 1) :=
  ⟨1, q, h1, h2, .inr (.inl ⟨h3, Nat.le_refl _, .inl ⟨rfl, rfl⟩⟩)⟩
theorem RunE.cls {l : List Int} {i q d e : Nat} (h1 : WS l i q) (h2 : q < l.length) (h3 : Bt l q = 125 ∨ Bt l q = 93) (hd : 1 ≤ d) (h : RunE l (q + 1) d e) : RunE l i (d + 1) e := by
  obtain ⟨f, hf⟩ := h
  exact ⟨f + 1, q, h1, h2, .inr (.inl ⟨h3, by omega, .inr ⟨by omega, by simpa using hf⟩⟩)⟩
theorem RunE.sep {l : List Int} {i q d e : Nat} (h1 : WS l i q) (h2 : q < l.length) (h3 : Bt l q = 44 ∨ Bt l q = 58) (h : RunE l (q + 1) d e) : RunE l i d e := by
  obtain ⟨f, hf⟩ := h
  exact ⟨f + 1, q, h1, h2, .inr (.inr (.inl ⟨h3, hf⟩))⟩
theorem RunE.str0 {l : List Int} {i q j : Nat} (h1 : WS l i q) (h2 : q < l.length) (h3 : Bt l q = 34) (hs : Sc l (q + 1) j) : RunE l i 0 (j + 1) :=
  ⟨1, q, h1, h2, .inr (.inr (.inr (.inl ⟨h3, j, hs, .inl ⟨rfl, rfl⟩⟩)))⟩
theorem RunE.str {l : List Int} {i q j d e : Nat} (h1 : WS l i q) (h2 : q < l.length) (h3 : Bt l q = 34) (hs : Sc l (q + 1) j) (hd : 1 ≤ d) (h : RunE l (j + 1) d e) : RunE l i d e := by
  obtain ⟨f, hf⟩ := h
  exact ⟨f + 1, q, h1, h2, .inr (.inr (.inr (.inl ⟨h3, j, hs, .inr ⟨hd, hf⟩⟩)))⟩
theorem RunE.lit0 {l : List Int} {i q r : Nat} (h1 : WS l i q) (h2 : q < l.length) (hs : LitTo l q r) (he : End l r) : RunE l i 0 r :=
  ⟨1, q, h1, h2, .inr (.inr (.inr (.inr ⟨r, hs, he, .inl ⟨rfl, rfl⟩⟩)))⟩
theorem RunE.lit {l : List Int} {i q r d e : Nat} (h1 : WS l i q) (h2 : q < l.length) (hs : LitTo l q r) (he : End l r) (hd : 1 ≤ d) (h : RunE l r d e) : RunE l i d e := by
  obtain ⟨f, hf⟩ := h
  exact ⟨f + 1, q, h1, h2, .inr (.inr (.inr (.inr ⟨r, hs, he, .inr ⟨hd, hf⟩⟩)))⟩

/-! ### The grammar's machine -/
/-- A value is to be read at i, under d open containers: where skip goes from there it goes from p. -/
def Bef (l : List Int) (p i d : Nat) : Prop := ∀ e, RunE l i d e → RunE l p 0 e
/-- A value has ended at i, under d open containers. -/
def Aft (l : List Int) (p i d : Nat) : Prop := (d = 0 → RunE l p 0 i) ∧ (0 < d → Bef l p i d)
/-- A member's key at j; its value begins at r. -/
def Mem (l : List Int) (j r : Nat) : Prop := ∃ j1 k, Bt l j = 34 ∧ Sc l (j + 1) j1 ∧ WS l (j1 + 1) k ∧ k < l.length ∧ Bt l k = 58 ∧ WS l (k + 1) r

theorem nows34 {c : Int} (h : c = 34) : wsB c = false := wsB_no (by omega)
theorem Mem.lt {l : List Int} {j r : Nat} (h : Mem l j r) : j < l.length ∧ r ≤ l.length ∧ j < r := by
  obtain ⟨j1, k, h34, hs, h1, hk, h58, h2⟩ := h
  have := hs.lt; have := hs.1; have := h1.1; have := h2.1
  exact ⟨by omega, h2.2.1, by omega⟩

theorem aft_str {l : List Int} {p i d j : Nat} (hb : Bef l p i d) (hi : i < l.length) (h34 : Bt l i = 34) (hs : Sc l (i + 1) j) : Aft l p (j + 1) d := by
  have hw := WS.here hi (nows34 h34)
  exact ⟨fun h0 => hb _ (by subst h0; exact RunE.str0 hw hi h34 hs), fun hd e he => hb e (RunE.str hw hi h34 hs hd he)⟩
theorem aft_lit {l : List Int} {p i d r : Nat} (hb : Bef l p i d) (hl : LitTo l i r) (he : End l r) : Aft l p r d := by
  have hi : i < l.length := by have := hl.1; have := hl.2.1; omega
  have hw := WS.here hi (hl.2.2 i (Nat.le_refl _) hl.1).ws
  exact ⟨fun h0 => hb _ (by subst h0; exact RunE.lit0 hw hi hl he), fun hd e h => hb e (RunE.lit hw hi hl he hd h)⟩
theorem bef_open {l : List Int} {p i d j : Nat} (hb : Bef l p i d) (hi : i < l.length) (ho : Bt l i = 123 ∨ Bt l i = 91) (hw : WS l (i + 1) j) : Bef l p j (d + 1) :=
  fun e he => hb e (RunE.opn (WS.here hi (wsB_no (by omega))) hi ho (RunE.ws hw he))
theorem aft_close {l : List Int} {p i d j : Nat} (hb : Bef l p i (d + 1)) (hw : WS l i j) (hj : j < l.length) (hc : Bt l j = 125 ∨ Bt l j = 93) : Aft l p (j + 1) d :=
  ⟨fun h0 => hb _ (by subst h0; exact RunE.cls1 hw hj hc), fun hd e he => hb e (RunE.cls hw hj hc hd he)⟩
theorem bef_member {l : List Int} {p j d r : Nat} (hb : Bef l p j d) (hd : 1 ≤ d) (hm : Mem l j r) : Bef l p r d := by
  have hl := hm.lt.1
  obtain ⟨j1, k, h34, hs, h1, hk, h58, h2⟩ := hm
  exact fun e he => hb e (RunE.str (WS.here hl (nows34 h34)) hl h34 hs hd (RunE.sep h1 hk (.inr h58) (RunE.ws h2 he)))
theorem bef_comma {l : List Int} {p i d j r : Nat} (hb : Bef l p i d) (hw : WS l i j) (hj : j < l.length) (h44 : Bt l j = 44) (hr : WS l (j + 1) r) : Bef l p r d :=
  fun e he => hb e (RunE.sep hw hj (.inl h44) (RunE.ws hr he))
theorem bef_self (l : List Int) (p : Nat) : Bef l p p 0 := fun _ h => h
theorem end_of {l : List Int} {i j : Nat} (hw : WS l i j) (hj : j < l.length) (hc : Bt l j = 44 ∨ Bt l j = 125 ∨ Bt l j = 93) : End l i := by
  by_cases h : i = j
  · subst h; exact .inr (endsB_iff.2 (by omega))
  · exact .inr (endsB_ws (hw.2.2.1 i (Nat.le_refl _) (by have := hw.1; omega)))

/-- The first character of an object, an array, a string. -/
def Topc (c : Int) : Prop := c = 123 ∨ c = 91 ∨ c = 34
/-- What is known where a value has ended. -/
def Fin (l : List Int) (p i d : Nat) : Prop := (End l i → Aft l p i d) ∧ (Topc (Bt l p) → d = 0 → Aft l p i d)
theorem Fin.of_aft {l : List Int} {p i d : Nat} (h : Aft l p i d) : Fin l p i d := ⟨fun _ => h, fun _ _ => h⟩
theorem fin_lit {l : List Int} {p i d r : Nat} (hb : Bef l p i d) (h0 : d = 0 → i = p) (hl : LitTo l i r) : Fin l p r d := by
  refine ⟨aft_lit hb hl, fun ht hd => ?_⟩
  have := hl.2.2 i (Nat.le_refl _) hl.1
  rw [h0 hd] at this
  unfold Topc at ht
  unfold Lc at this
  omega
theorem Fin.bef {l : List Int} {p i d j : Nat} (h : Fin l p i d) (hd : 0 < d) (hw : WS l i j) (hj : j < l.length) (hc : Bt l j = 44 ∨ Bt l j = 125 ∨ Bt l j = 93) : Bef l p i d :=
  (h.1 (end_of hw hj hc)).2 hd
/-- What zzValueEnd's answer means. -/
def Ended (l : List Int) (p e : Nat) : Prop := p < l.length ∧ e ≤ l.length ∧ (Topc (Bt l p) ∨ End l e → RunE l p 0 e)
theorem Fin.ended {l : List Int} {p i : Nat} (h : Fin l p i 0) (hp : p < l.length) (hi : i ≤ l.length) : Ended l p i :=
  ⟨hp, hi, fun hh => hh.elim (fun a => (h.2 a rfl).1 rfl) (fun a => (h.1 a).1 rfl)⟩

/-! ### The strings of the grammar -/
theorem sc_plain {l : List Int} {j e : Nat} (h1 : Bt l j ≠ 34) (h2 : Bt l j ≠ 92) {k : Nat} (h : ∀ e, Sc l j e → Sc l k e) : Sc l (j + 1) e → Sc l k e := fun hs => h e (Sc.skip1 h1 h2 hs)
def Hexc (c : Int) : Prop := (48 ≤ c ∧ c ≤ 57) ∨ (97 ≤ c ∧ c ≤ 102) ∨ (65 ≤ c ∧ c ≤ 70)
theorem sc_six {l : List Int} {j e : Nat} (h : Bt l j = 92) (a : Hexc (Bt l (j + 2))) (b : Hexc (Bt l (j + 3))) (c : Hexc (Bt l (j + 4))) (d : Hexc (Bt l (j + 5))) (hs : Sc l (j + 6) e) : Sc l j e := by
  unfold Hexc at a b c d
  have s5 : Sc l (j + 5) e := Sc.skip1 (by omega) (by omega) hs
  have s4 : Sc l (j + 4) e := Sc.skip1 (by omega) (by omega) s5
  have s3 : Sc l (j + 3) e := Sc.skip1 (by omega) (by omega) s4
  have s2 : Sc l (j + 2) e := Sc.skip1 (by omega) (by omega) s3
  exact Sc.skip2 h s2

end Go.Proofs.Qxb6601466aMods.Kp
