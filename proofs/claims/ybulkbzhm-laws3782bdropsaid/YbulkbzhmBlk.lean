/-
  A BLOCK OF CELLS, SAID AS A FUNCTION FROM PLACES TO VALUES.
-/
import Derived.WalkKit
namespace Go.Proofs.Ybulkbzhm
open Go.RowKit
set_option linter.unusedSectionVars false

/-- How many blocks there were ahead of all: those are not ours. -/
class Base where
  n : Nat

variable [Base]

/-- BLOCK g OF w IS A ROW OF sz CELLS OF ELEMENT TYPE e, none frozen; cell i holds 'c i'. -/
def Blk (w : World) (g : Nat) (e : TypeId) (sz : Nat) (c : Nat → Value) : Prop :=
  Base.n ≤ g ∧ ∃ cur : Array Value, w.heap[g]? = some (.cells cur e (0, 0)) ∧ cur.size = sz ∧ ∀ i, i < sz → cur[i]? = some (c i)

section
variable {w : World} {g : Nat} {e : TypeId} {sz : Nat} {c : Nat → Value}

theorem Blk.cell (h : Blk w g e sz c) {i : Nat} (hi : i < sz) : w.cell? ⟨g, i, none⟩ = some (c i) := by
  obtain ⟨hlow, cur, hb, _, hc⟩ := h
  rw [cell_of_row w g i cur e (0, 0) hb]
  exact hc i hi

theorem Blk.frozen (h : Blk w g e sz c) (i : Nat) : w.frozen? ⟨g, i, none⟩ = false := by
  obtain ⟨hlow, cur, hb, _, _⟩ := h
  exact frozen_of_row w g i cur e hb

theorem Blk.lt (h : Blk w g e sz c) : g < w.heap.size := by
  obtain ⟨hlow, cur, hb, _, _⟩ := h
  exact (Array.getElem?_eq_some_iff.1 hb).1

theorem Blk.low (h : Blk w g e sz c) : Base.n ≤ g := h.1

/-- There is room for new blocks. -/
theorem Blk.room (h : Blk w g e sz c) : Base.n ≤ w.heap.size := Nat.le_trans h.1 (Nat.le_of_lt h.lt)

theorem Blk.of_block (h : Blk w g e sz c) {w' : World} (hw : w'.heap[g]? = w.heap[g]?) : Blk w' g e sz c := by
  obtain ⟨hlow, cur, hb, r⟩ := h
  exact ⟨hlow, cur, hw.trans hb, r⟩

theorem Blk.of_row {cur : Array Value} (hlow : Base.n ≤ g) (hb : w.heap[g]? = some (.cells cur e (0, 0))) : Blk w g e cur.size (fun i => cur[i]?.getD undef) :=
  ⟨hlow, cur, hb, rfl, fun i hi => by simp [hi]⟩

theorem Blk.alloc (h : Blk w g e sz c) (o : Obj) : Blk (w.alloc o) g e sz c := h.of_block (Below.heap_alloc w o g h.lt)

theorem Blk.drew (h : Blk w g e sz c) : Blk w.drew g e sz c := h

theorem Blk.below (h : Blk w g e sz c) {B : Nat} {w' : World} (hb : Below B w w') (hg : g < B) : Blk w' g e sz c := h.of_block (hb.block g hg)

theorem Blk.congr (h : Blk w g e sz c) {c' : Nat → Value} (hc : ∀ i, i < sz → c i = c' i) : Blk w g e sz c' := by
  obtain ⟨hlow, cur, hb, hs, r⟩ := h
  exact ⟨hlow, cur, hb, hs, fun i hi => by rw [r i hi, hc i hi]⟩

theorem Blk.set (h : Blk w g e sz c) (i : Nat) (v : Value) : Blk (w.setCell ⟨g, i, none⟩ v) g e sz (fun j => if j = i then v else c j) := by
  obtain ⟨hlow, cur, hb, hs, r⟩ := h
  refine ⟨hlow, cur.setIfInBounds i v, heap_setCell_same w g i cur e v hb, by simpa using hs, fun j hj => ?_⟩
  rw [Array.getElem?_setIfInBounds]
  by_cases e1 : i = j
  · subst e1
    simp [hs, hj]
  · have : ¬ j = i := fun h => e1 h.symm
    simp [e1, this, r j hj]

theorem Blk.set_other (h : Blk w g e sz c) {a : Addr} (ha : g ≠ a.block) (v : Value) : Blk (w.setCell a v) g e sz c := h.of_block (heap_setCell_other w a g v ha)

theorem Blk.new (w : World) (cur : Array Value) (e : TypeId) (hB : Base.n ≤ w.heap.size) {sz : Nat} {c : Nat → Value} (hs : cur.size = sz) (hc : ∀ i, i < sz → cur[i]? = some (c i)) : Blk (w.alloc (.cells cur e)) w.heap.size e sz c :=
  ⟨hB, cur, heap_alloc_new w _, hs, hc⟩

theorem Blk.new_at (w : World) (cur : Array Value) (e : TypeId) (hB : Base.n ≤ w.heap.size) {i sz : Nat} {c : Nat → Value} (hi : i = w.heap.size) (hs : cur.size = sz) (hc : ∀ j, j < sz → cur[j]? = some (c j)) : Blk (w.alloc (.cells cur e)) i e sz c := by
  subst hi
  exact Blk.new w cur e hB hs hc

theorem Blk.ne {g' : Nat} {e' : TypeId} {sz' : Nat} {c' : Nat → Value} (h : Blk w g e sz c) (h' : Blk w g' e' sz' c') (hne : e ≠ e') : g ≠ g' := by
  rintro rfl
  obtain ⟨hlow, cur, hb, _⟩ := h
  obtain ⟨_, cur', hb', _⟩ := h'
  rw [hb] at hb'
  simp at hb'
  exact hne hb'.2

theorem Blk.size_eq {e' : TypeId} {sz' : Nat} {c' : Nat → Value} (h : Blk w g e sz c) (h' : Blk w g e' sz' c') : e = e' ∧ sz = sz' ∧ ∀ i, i < sz → c i = c' i := by
  obtain ⟨hlow, cur, hb, hs, hc⟩ := h
  obtain ⟨_, cur', hb', hs', hc'⟩ := h'
  rw [hb] at hb'
  simp at hb'
  obtain ⟨rfl, rfl⟩ := hb'
  refine ⟨rfl, hs.symm.trans hs', fun i hi => ?_⟩
  have h1 := hc i hi
  rw [hc' i (by omega)] at h1
  simpa using h1.symm

end

theorem blocknew (w : World) (o : Obj) {i : Nat} (hi : i = w.heap.size) : (w.alloc o).heap[i]? = some o := by
  subst hi
  exact heap_alloc_new w o

theorem blockset {w : World} {g : Nat} {o : Obj} (h : w.heap[g]? = some o) {a : Addr} (ha : g ≠ a.block) (v : Value) : (w.setCell a v).heap[g]? = some o := (heap_setCell_other w a g v ha).trans h
theorem blockdrew {w : World} {g : Nat} {o : Obj} (h : w.heap[g]? = some o) : w.drew.heap[g]? = some o := h

/-- A new array of one-cell elements: 'make([]T, n)': the array under a name of its own. -/
theorem madeCells_one (z : Value) (n : Nat) : (madeCells #[z] n).size = n ∧ ∀ i, i < n → (madeCells #[z] n)[i]? = some z := by
  refine ⟨size_madeCells _ _, fun i hi => ?_⟩
  have h1 : i % 1 = 0 := by omega
  simp [madeCells, hi, h1]

/-- .. of elements of three cells. -/
theorem madeCells_three (x y z : Value) (n : Nat) : (madeCells #[x, y, z] n).size = n ∧ ∀ i, i < n → (madeCells #[x, y, z] n)[i]? = some (if i % 3 = 0 then x else if i % 3 = 1 then y else z) := by
  refine ⟨size_madeCells _ _, fun i hi => ?_⟩
  have h3 : i % 3 = 0 ∨ i % 3 = 1 ∨ i % 3 = 2 := by omega
  rcases h3 with h | h | h <;> simp [madeCells, hi, h]

#print axioms madeCells_three
end Go.Proofs.Ybulkbzhm
