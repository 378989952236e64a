/-
  BYTES IN MEMORY, for seat b6601977aM: what a slice of bytes reads as ('View'), and a row that the call itself made ('Own').
-/
import Derived.Test.Qxb6601977aModsPlain
import Derived.WalkKit
import Derived.WalkSmall
namespace Go.Proofs.Qxb6601977aMods.Kp
open Go.RowKit
set_option linter.unusedVariables false

/-- The cells of a list of bytes. -/
def ints (l : List Int) : List Value := l.map (Value.int .u8)
theorem ints_len (l : List Int) : (ints l).length = l.length := by simp [ints]
theorem ints_app (a b : List Int) : ints (a ++ b) = ints a ++ ints b := by simp [ints]
theorem ints_get {l : List Int} {i : Nat} (h : i < l.length) : (ints l)[i]? = some (.int .u8 (Bt l i)) := by
  simp only [ints, List.getElem?_map, bt_get h, Option.map_some]
theorem ints_one (l : List Int) : ∀ u ∈ ints l, u.oneCell' = true := ints_oneCell _ _

/-- Each is a byte. -/
def Byt (l : List Int) : Prop := ∀ n ∈ l, 0 ≤ n ∧ n ≤ 255
theorem Byt.at {l : List Int} (h : Byt l) (i : Nat) : 0 ≤ Bt l i ∧ Bt l i ≤ 255 := bt_range h i

/-- What a slice of n elements at 'ao' reads as in w: the bytes l. -/
def View (w : World) (ao : Option Addr) (n : Nat) (l : List Int) : Prop :=
  l.length = n ∧ Byt l ∧ ∀ i, i < n → ∃ b off, ao = some ⟨b, off, none⟩ ∧ w.cell? ⟨b, off + i, none⟩ = some (.int .u8 (Bt l i))

theorem View.cells {w : World} {ao : Option Addr} {n : Nat} {l : List Int} (h : View w ao n l) (hn : 0 < n) :
    ∃ b off, ao = some ⟨b, off, none⟩ ∧ ∀ i, i < n → w.cell? ⟨b, off + i, none⟩ = some (.int .u8 (Bt l i)) := by
  obtain ⟨b, off, rfl, _⟩ := h.2.2 0 hn
  refine ⟨b, off, rfl, fun i hi => ?_⟩
  obtain ⟨b', off', e, hc⟩ := h.2.2 i hi
  simp only [Option.some.injEq, Addr.mk.injEq, and_true] at e
  obtain ⟨rfl, rfl⟩ := e
  exact hc

theorem View.of_cells {w w' : World} {ao : Option Addr} {n : Nat} {l : List Int} (h : View w ao n l) (hc : ∀ b o v, w.cell? ⟨b, o, none⟩ = some v → w'.cell? ⟨b, o, none⟩ = some v) : View w' ao n l :=
  ⟨h.1, h.2.1, fun i hi => by obtain ⟨b, off, e, hx⟩ := h.2.2 i hi; exact ⟨b, off, e, hc _ _ _ hx⟩⟩

/-- What was there stays, below the heap's old size. -/
theorem View.below {w w' : World} {ao : Option Addr} {n : Nat} {l : List Int} (h : View w ao n l) (hb : Below w.heap.size w w') : View w' ao n l :=
  h.of_cells fun b o _ hv => (hb.cell (p := ⟨b, o, none⟩) (World.block_lt_of_cell? w _ hv)).trans hv

/-- A part of what is read. -/
theorem View.part {w : World} {b off n : Nat} {l : List Int} (h : View w (some ⟨b, off, none⟩) n l) (i j : Nat) (hij : i ≤ j) (hj : j ≤ n) : View w (some ⟨b, off + i, none⟩) (j - i) ((l.drop i).take (j - i)) := by
  have hl := h.1
  refine ⟨by simp; omega, fun x hx => h.2.1 x (List.drop_subset _ _ (List.take_subset _ _ hx)), fun k hk => ?_⟩
  refine ⟨b, off + i, rfl, ?_⟩
  obtain ⟨b', off', e, hc⟩ := h.2.2 (i + k) (by omega)
  simp only [Option.some.injEq, Addr.mk.injEq, and_true] at e
  obtain ⟨rfl, rfl⟩ := e
  rw [Nat.add_assoc, hc]
  congr 2
  have h1 : i + k < l.length := by omega
  have h2 : k < ((l.drop i).take (j - i)).length := by simp; omega
  have e1 := bt_get h1
  have e2 := bt_get h2
  rw [List.getElem?_take, if_pos (by omega), List.getElem?_drop, e1] at e2
  simpa using e2

/-- The row that v is, made by the call itself (from block 'base' on), holds the bytes l. -/
def Own (w : World) (base : Nat) (v : Value) (l : List Int) : Prop := w.ownsRow base 5 1 v l.length (ints l) ∧ Byt l

theorem Own.nil (w : World) (base : Nat) : Own w base (.slice none 0 0) [] := ⟨World.ownsRow_nil _ _ _ _, fun n hn => by cases hn⟩

theorem Own.shape {w : World} {base : Nat} {v : Value} {l : List Int} (h : Own w base v l) :
    ∃ ao cap, v = .slice ao l.length cap ∧ View w ao l.length l ∧ l.length ≤ cap ∧ cap ≤ maxLen := by
  obtain ⟨hr, hb⟩ := h
  rcases hr.2 with ⟨rfl, hn⟩ | ⟨g, cap, cur, rfl, hg, hh, hcap, hm, _⟩
  · obtain rfl : l = [] := List.eq_nil_of_length_eq_zero hn
    exact ⟨none, 0, rfl, ⟨rfl, hb, fun i hi => absurd hi (by simp)⟩, by simp, by simp [maxLen]⟩
  · refine ⟨some ⟨g, 0, none⟩, cap, rfl, ⟨rfl, hb, fun i hi => ⟨g, 0, rfl, ?_⟩⟩, hcap, hm⟩
    have := hr.cellAt i (by omega)
    rw [Nat.zero_add, this, ints_get hi]

/-- A row that is not nil. -/
theorem Own.shape' {w : World} {base : Nat} {v : Value} {l : List Int} (h : Own w base v l) (hl : 0 < l.length) :
    ∃ g cap, v = .slice (some ⟨g, 0, none⟩) l.length cap ∧ View w (some ⟨g, 0, none⟩) l.length l ∧ l.length ≤ cap ∧ cap ≤ maxLen ∧ base ≤ g ∧ g < w.heap.size := by
  obtain ⟨ao, cap, rfl, hv, h1, h2⟩ := h.shape
  obtain ⟨hr, hb⟩ := h
  rcases hr.2 with ⟨e, hn⟩ | ⟨g, cap', cur, e, hg, hh, hcap, hm, _⟩
  · omega
  · simp only [Value.slice.injEq, true_and] at e
    obtain ⟨rfl, rfl⟩ := e
    exact ⟨g, cap, rfl, hv, h1, h2, hg, (Array.getElem?_eq_some_iff.1 hh).1⟩

theorem Own.kept {w w' : World} {base : Nat} {v : Value} {l : List Int} (h : Own w base v l) (hb : Below w.heap.size w w') : Own w' base v l :=
  ⟨h.1.kept (row := none) ⟨hb.os, hb.tape, hb.output, hb.size, fun k hk _ => hb.block k hk⟩ (by cases hv : v.ownBlock <;> simp), h.2⟩

theorem Own.alloc {w : World} {base : Nat} {v : Value} {l : List Int} (h : Own w base v l) (o : Obj) : Own (w.alloc o) base v l := ⟨h.1.alloc o, h.2⟩
theorem Own.drew {w : World} {base : Nat} {v : Value} {l : List Int} (h : Own w base v l) : Own w.drew base v l := ⟨h.1, h.2⟩
theorem Own.drewN {w : World} {base : Nat} {v : Value} {l : List Int} (h : Own w base v l) (q : Nat) : Own (w.drewN q) base v l := ⟨h.1, h.2⟩

theorem Own.cast {w : World} {base : Nat} {v : Value} {l l' : List Int} (h : Own w base v l) (e : l = l') : Own w base v l' := e ▸ h

/-- One byte of an owned row is written. -/
theorem Own.set {w : World} {base g n cap : Nat} {l : List Int} (h : Own w base (.slice (some ⟨g, 0, none⟩) n cap) l) (hn : l.length = n) (j : Nat) (c : Int) (hc : 0 ≤ c ∧ c ≤ 255) :
    Own (w.setCell ⟨g, j, none⟩ (.int .u8 c)) base (.slice (some ⟨g, 0, none⟩) n cap) (l.set j c) := by
  subst hn
  obtain ⟨hr, hb⟩ := h
  have hs := (hr.stored j (.int .u8 c)).1
  refine ⟨?_, fun x hx => ?_⟩
  · rw [List.length_set]
    have e : ints (l.set j c) = (ints l).set j (.int .u8 c) := by simp [ints, List.map_set]
    rw [e]; exact hs
  · rcases List.mem_or_eq_of_mem_set hx with hx | rfl
    · exact hb x hx
    · exact hc

theorem Own.free {w : World} {base g n cap : Nat} {l : List Int} (h : Own w base (.slice (some ⟨g, 0, none⟩) n cap) l) (hn : l.length = n) (j : Nat) : w.frozen? ⟨g, j, none⟩ = false := by
  subst hn; exact h.1.frozenAt j

theorem Own.cell {w : World} {base g n cap : Nat} {l : List Int} (h : Own w base (.slice (some ⟨g, 0, none⟩) n cap) l) (hn : l.length = n) (j : Nat) (hj : j < n) : w.cell? ⟨g, j, none⟩ = some (.int .u8 (Bt l j)) := by
  subst hn
  rw [h.1.cellAt j (by omega), ints_get hj]

/-- A row of n zero bytes, new. -/
theorem Own.made {w' : World} {base n : Nat} {v : Value} (h : w'.ownsRow base 5 1 v n (madeCells #[Value.int .u8 0] n).toList) : Own w' base v (List.replicate n 0) := by
  refine ⟨?_, fun x hx => ?_⟩
  · have e : ints (List.replicate n 0) = (madeCells #[Value.int .u8 0] n).toList := by
      rw [toList_madeCells_one]
      simp [ints]
    rw [e, List.length_replicate]; exact h
  · obtain ⟨_, rfl⟩ := List.mem_replicate.1 hx; omega

theorem fill_step {l : List Int} {n k : Nat} (hl : l.length = n) (hk : k < n) : (l.take k ++ List.replicate (n - k) 0).set k (Bt l k) = l.take (k + 1) ++ List.replicate (n - (k + 1)) 0 := by
  have h1 : (l.take k).length = k := by simp; omega
  rw [List.set_append_right _ _ (by omega), h1, Nat.sub_self, show n - k = (n - (k + 1)) + 1 by omega, List.replicate_succ, List.set_cons_zero, bt_take (by omega)]
  simp

/-- What the call owns from 'base' on is untouched where blocks from a number above it on are written. -/
theorem Below.refl' (w : World) : Below w.heap.size w w := Below.refl _ _

/-- 'append(out, x)', x one byte: the walk's step. 'out' may be nil; it may grow. -/
theorem wpList_push {P : Program} (w : World) {ops : Array Oper} {rest : List Oper} {o : Oper} {a : Act} {Q : Exit → Act → World → Prop} (hgd : o.guard = none) (s x : Operand) (t : TypeId)
    (ho : o.op = .call { callee := .builtin .append, args := #[s, x], argTypes := #[t, t] })
    (base : Nat) (i : TypeInfo) (ht : P.underlying t = some (.slice 5)) (hi : P.info? 5 = some i) (hz : i.zero = some (.int .u8 0)) (hsize : i.size = 1) (hby : i.bytes = 1)
    (v : Value) (l : List Int) (hs : a.eval s = v) (hown : Own w base v l)
    (c : Int) (hc : 0 ≤ c ∧ c ≤ 255) (hx : a.eval x = .slice (some ⟨w.heap.size, 0, none⟩) 1 1)
    (hlen : l.length + 1 ≤ 140737488355328) (hbase : base ≤ w.heap.size)
    (h : ∀ v' w', Own w' base v' (l ++ [c]) → (∀ B, B ≤ base → Below B w w') → wpList P ops Q rest (a.put o.dst v') w') : wpList P ops Q (o :: rest) a (w.alloc (.cells #[.int .u8 c] 5)) := by
  refine wpList_append_own (w.alloc (.cells #[.int .u8 c] 5)) hgd s x t ho base 5 i (.int .u8 0) 1 1 ht hi hz hsize hby rfl (by decide) v l.length (ints l) hs (hown.alloc _).1 ⟨w.heap.size, 0, none⟩ 1 1 [.int .u8 c] hx rfl ?_ ?_ (by unfold maxLen; omega) (by omega) (by simp; omega) ?_
  · intro j u hj
    match j, hj with
    | 0, hj => simp at hj; subst hj; simp [Addr.add]
  · intro u hu; simp at hu; subst hu; rfl
  · intro v' w' hown' hgrow _
    refine h v' w' ⟨?_, ?_⟩ ?_
    · have e : l.length + 1 = (l ++ [c]).length := by simp
      rw [e] at hown'
      rw [ints_app]
      exact hown'
    · intro n hn
      rcases List.mem_append.1 hn with hn | hn
      · exact hown.2 n hn
      · simp at hn; subst hn; exact hc
    · intro B hB
      refine ((Below.refl B w).alloc (by omega) _).grown hgrow (by simp; omega) ?_
      intro k hk
      have := hown.1.lt k hk
      omega

theorem Own.base {w : World} {base base' : Nat} {v : Value} {l : List Int} (h : Own w base v l) (hb : base' ≤ base) : Own w base' v l := by
  refine ⟨⟨h.1.1, ?_⟩, h.2⟩
  rcases h.1.2 with h1 | ⟨g, cap, cur, e, hg, r⟩
  · exact .inl h1
  · exact .inr ⟨g, cap, cur, e, by omega, r⟩

theorem byt_app {a b : List Int} (ha : Byt a) (hb : Byt b) : Byt (a ++ b) := fun n hn => by
  rcases List.mem_append.1 hn with h | h
  · exact ha n h
  · exact hb n h

theorem new_cells (w : World) {arr : Array Value} {cs : List Int} (harr : arr.toList = ints cs) : ∀ j u, (ints cs)[j]? = some u → (w.alloc (.cells arr 5)).cell? ((⟨w.heap.size, 0, none⟩ : Addr).add j) = some u := by
  intro j u hj
  rw [Addr.add_lit, Nat.zero_add, cell_of_row (w.alloc (.cells arr 5)) w.heap.size j arr 5 (0, 0) (heap_alloc_new w _)]
  rw [← hj, ← harr]
  simp

/-- 'append(out, x, y, ..)': several bytes at once. 'out' may be nil; it may grow. -/
theorem wpList_pushL {P : Program} (w : World) {ops : Array Oper} {rest : List Oper} {o : Oper} {a : Act} {Q : Exit → Act → World → Prop} (hgd : o.guard = none) (s x : Operand) (t : TypeId)
    (ho : o.op = .call { callee := .builtin .append, args := #[s, x], argTypes := #[t, t] })
    (base : Nat) (i : TypeInfo) (ht : P.underlying t = some (.slice 5)) (hi : P.info? 5 = some i) (hz : i.zero = some (.int .u8 0)) (hsize : i.size = 1) (hby : i.bytes = 1)
    (v : Value) (l : List Int) (hs : a.eval s = v) (hown : Own w base v l)
    (arr : Array Value) (cs : List Int) (m : Nat) (harr : arr.toList = ints cs) (hm : cs.length = m) (hc : Byt cs) (hx : a.eval x = .slice (some ⟨w.heap.size, 0, none⟩) m m)
    (hlen : l.length + m ≤ 140737488355328) (hbase : base ≤ w.heap.size)
    (h : ∀ v' w', Own w' base v' (l ++ cs) → (∀ B, B ≤ base → Below B w w') → wpList P ops Q rest (a.put o.dst v') w') : wpList P ops Q (o :: rest) a (w.alloc (.cells arr 5)) := by
  refine wpList_append_own (w.alloc (.cells arr 5)) hgd s x t ho base 5 i (.int .u8 0) 1 1 ht hi hz hsize hby rfl (by decide) v l.length (ints l) hs (hown.alloc _).1 ⟨w.heap.size, 0, none⟩ m m (ints cs) hx (by rw [ints_len]; omega) (new_cells w harr) (ints_one _) (by unfold maxLen; omega) (by omega) (by simp; omega) ?_
  intro v' w' hown' hgrow _
  refine h v' w' ⟨?_, byt_app hown.2 hc⟩ ?_
  · have e : l.length + m = (l ++ cs).length := by simp; omega
    rw [e] at hown'
    rw [ints_app]
    exact hown'
  · intro B hB
    refine ((Below.refl B w).alloc (by omega) _).grown hgrow (by simp; omega) ?_
    intro k hk
    have := hown.1.lt k hk
    omega

/-- The same as one step of a region that draws its order. -/
theorem step_pushL {P : Program} (w : World) {ops : Array Oper} {o : Oper} {a : Act} {K : Act → World → Prop} {Q : Exit → Act → World → Prop} {E : Prop} (hgd : o.guard = none) (s x : Operand) (t : TypeId)
    (ho : o.op = .call { callee := .builtin .append, args := #[s, x], argTypes := #[t, t] })
    (base : Nat) (i : TypeInfo) (ht : P.underlying t = some (.slice 5)) (hi : P.info? 5 = some i) (hz : i.zero = some (.int .u8 0)) (hsize : i.size = 1) (hby : i.bytes = 1)
    (v : Value) (l : List Int) (hs : a.eval s = v) (hown : Own w base v l)
    (arr : Array Value) (cs : List Int) (m : Nat) (harr : arr.toList = ints cs) (hm : cs.length = m) (hc : Byt cs) (hx : a.eval x = .slice (some ⟨w.heap.size, 0, none⟩) m m)
    (hlen : l.length + m ≤ 140737488355328) (hbase : base ≤ w.heap.size) (W : World) (hW : W = w.alloc (.cells arr 5))
    (h : ∀ v' w', Own w' base v' (l ++ cs) → (∀ B, B ≤ base → Below B w w') → K (a.put o.dst v') w') : if Region.wanted o (yielded ops a.tmps) = true then Oper.wp P o a W K Q else E := by
  subst hW
  have hw : Region.wanted o (yielded ops a.tmps) = true := by simp [Region.wanted, hgd]
  rw [if_pos hw]
  refine wp_append_own (w.alloc (.cells arr 5)) s x t ho base 5 i (.int .u8 0) 1 1 ht hi hz hsize hby rfl (by decide) v l.length (ints l) hs (hown.alloc _).1 ⟨w.heap.size, 0, none⟩ m m (ints cs) hx (by rw [ints_len]; omega) (new_cells w harr) (ints_one _) (by unfold maxLen; omega) (by omega) (by simp; omega) ?_
  intro v' w' hown' hgrow _
  refine h v' w' ⟨?_, byt_app hown.2 hc⟩ ?_
  · have e : l.length + m = (l ++ cs).length := by simp; omega
    rw [e] at hown'
    rw [ints_app]
    exact hown'
  · intro B hB
    refine ((Below.refl B w).alloc (by omega) _).grown hgrow (by simp; omega) ?_
    intro k hk
    have := hown.1.lt k hk
    omega

/-- 'append(b, x)' onto a full slice of whatever make: a new row. -/
theorem wpList_grow1 {P : Program} (w : World) {ops : Array Oper} {rest : List Oper} {o : Oper} {a : Act} {Q : Exit → Act → World → Prop} (hgd : o.guard = none) (s x : Operand) (t : TypeId)
    (ho : o.op = .call { callee := .builtin .append, args := #[s, x], argTypes := #[t, t] })
    (i : TypeInfo) (ht : P.underlying t = some (.slice 5)) (hi : P.info? 5 = some i) (hz : i.zero = some (.int .u8 0)) (hsize : i.size = 1) (hby : i.bytes = 1)
    (ao : Option Addr) (n : Nat) (l : List Int) (hs : a.eval s = .slice ao n n) (hnil : ao = none → n = 0) (hv : View w ao n l)
    (c : Int) (hc : 0 ≤ c ∧ c ≤ 255) (hx : a.eval x = .slice (some ⟨w.heap.size, 0, none⟩) 1 1)
    (hlen : n + 1 ≤ 140737488355328)
    (h : ∀ v' w', Own w' w.heap.size v' (l ++ [c]) → Below w.heap.size w w' → wpList P ops Q rest (a.put o.dst v') w') : wpList P ops Q (o :: rest) a (w.alloc (.cells #[.int .u8 c] 5)) := by
  have hl := hv.1
  refine wpList_append_grows (w.alloc (.cells #[.int .u8 c] 5)) hgd s x t ho 5 i (.int .u8 0) 1 1 ht hi hz hsize hby rfl (by decide) ao n n (ints l) hs (fun h => ⟨hnil h, hnil h⟩) (by rw [ints_len]; omega) ?_ ⟨w.heap.size, 0, none⟩ 1 1 (ints [c]) hx rfl (new_cells w rfl) (ints_one _) (by omega) (by unfold maxLen; omega) (by omega) ?_
  · intro b hb j u hj
    have hjl : j < n := by
      have := (List.getElem?_eq_some_iff.1 hj).1
      rw [ints_len] at this; omega
    obtain ⟨b', off, e, hcell⟩ := hv.2.2 j hjl
    rw [hb] at e
    obtain rfl := Option.some.inj e
    rw [ints_get (by omega)] at hj
    rw [Addr.add_lit, ← hj, ← hcell]
    exact Below.cell (B := w.heap.size) ((Below.refl _ _).alloc (Nat.le_refl _) _) (World.block_lt_of_cell? w _ hcell)
  · intro v' w' hown' hgrow
    have hb : Below w.heap.size w w' := ((Below.refl _ w).alloc (Nat.le_refl _) _).grown hgrow (by simp) (by simp)
    refine h v' w' (Own.base (base := w.heap.size + 1) ⟨?_, byt_app hv.2.1 (fun x hx => by simp at hx; omega)⟩ (by omega)) hb
    have e : n + 1 = (l ++ [c]).length := by simp; omega
    rw [e] at hown'
    rw [ints_app]
    simpa using hown'

/-! ### The bytes of a string -/
/-- A string's bytes. -/
def sl (s : ByteArray) : List Int := s.data.toList.map (fun b => (b.toNat : Int))
theorem sl_len (s : ByteArray) : (sl s).length = s.size := by simp [sl]
theorem sl_at {s : ByteArray} {k : Nat} (h : k < s.size) : ((s[k].toNat : Nat) : Int) = Bt (sl s) k := by
  have h' : k < s.data.toList.length := by simpa using h
  simp only [Bt, sl, List.getD, List.getElem?_map, List.getElem?_eq_getElem h', Option.map_some, Option.getD_some]
  rfl
theorem sl_byt (s : ByteArray) : Byt (sl s) := fun n hn => by
  simp only [sl, List.mem_map] at hn
  obtain ⟨b, _, rfl⟩ := hn
  have := b.toNat_lt
  omega

end Go.Proofs.Qxb6601977aMods.Kp
