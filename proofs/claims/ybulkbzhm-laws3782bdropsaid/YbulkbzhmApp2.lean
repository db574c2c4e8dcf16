import Derived.Test.YbulkbzhmApp
namespace Go.Proofs.Ybulkbzhm
set_option linter.unusedSectionVars false
variable [Base]
open Go.RowKit
open Go.WideShapes (add_plain)

section
variable {w w' : World} {e : TypeId} {s : Nat} {v v' : Value} {n : Nat} {x nw : Nat → Value}

theorem SliceIs.nil (w : World) (e : TypeId) (s : Nat) (x : Nat → Value) : SliceIs w e s (.slice none 0 0) 0 x := .inl ⟨rfl, rfl⟩

theorem SliceIs.congr (h : SliceIs w e s v n x) {y : Nat → Value} (hxy : ∀ j, j < n * s → x j = y j) : SliceIs w e s v n y := by
  rcases h with h | ⟨g, o, cap, sz, c, h1, h2, h3, h4, h5, h6⟩
  · exact .inl h
  · exact .inr ⟨g, o, cap, sz, c, h1, h2, h3, h4, h5, fun j hj => (h6 j hj).trans (hxy j hj)⟩

theorem SliceIs.lt (h : SliceIs w e s v n x) {g : Nat} (hg : v.ownBlock = some g) : g < w.heap.size := by
  rcases h with ⟨rfl, _⟩ | ⟨g', o, cap, sz, c, rfl, _, _, hb, _⟩
  · simp [Value.ownBlock] at hg
  · simp [Value.ownBlock] at hg
    subst hg
    exact hb.lt

theorem SliceIs.typed (h : SliceIs w e s v n x) {g : Nat} (hg : v.ownBlock = some g) : ∃ sz c, Blk w g e sz c := by
  rcases h with ⟨rfl, _⟩ | ⟨g', o, cap, sz, c, rfl, _, _, hb, _⟩
  · simp [Value.ownBlock] at hg
  · simp [Value.ownBlock] at hg
    subst hg
    exact ⟨sz, c, hb⟩

theorem SliceIs.of_block (h : SliceIs w e s v n x) (hb : ∀ g, v.ownBlock = some g → w'.heap[g]? = w.heap[g]?) : SliceIs w' e s v n x := by
  rcases h with h | ⟨g, o, cap, sz, c, rfl, h2, h3, h4, h5, h6⟩
  · exact .inl h
  · exact .inr ⟨g, o, cap, sz, c, rfl, h2, h3, h4.of_block (hb g rfl), h5, h6⟩

theorem SliceIs.kept (h : SliceIs w e s v n x) {row : Option Nat} (hg : w.grownBy w' row) (hne : ∀ g, v.ownBlock = some g → some g ≠ row) : SliceIs w' e s v n x :=
  h.of_block fun g hv => hg.block g (h.lt hv) (hne g hv)

theorem SliceIs.alloc (h : SliceIs w e s v n x) (o : Obj) : SliceIs (w.alloc o) e s v n x := h.of_block fun g hv => Below.heap_alloc w o g (h.lt hv)

theorem SliceIs.below (h : SliceIs w e s v n x) (hb : Below w.heap.size w w') : SliceIs w' e s v n x := h.of_block fun g hv => hb.block g (h.lt hv)

/-- The elements' cells. -/
theorem SliceIs.cell {g o cap : Nat} (h : SliceIs w e s (.slice (some ⟨g, o, none⟩) n cap) n x) {j : Nat} (hj : j < n * s) : w.cell? ⟨g, o + j, none⟩ = some (x j) := by
  rcases h with ⟨h, _⟩ | ⟨g', o', cap', sz, c, hv, h2, h3, h4, h5, h6⟩
  · simp at h
  · simp at hv
    obtain ⟨⟨rfl, rfl⟩, rfl⟩ := hv
    have : n * s ≤ cap * s := Nat.mul_le_mul_right _ h2
    rw [h4.cell (by omega), h6 j hj]

/-- A new array, all of it read. -/
theorem SliceIs.of_blk {g cap : Nat} {c : Nat → Value} (hb : Blk w g e (cap * s) c) (hm : cap ≤ maxLen) (hn : n ≤ cap) : SliceIs w e s (.slice (some ⟨g, 0, none⟩) n cap) n c :=
  .inr ⟨g, 0, cap, cap * s, c, rfl, hn, hm, hb, by omega, fun j _ => by rw [Nat.zero_add]⟩

theorem Appended.grown (h : Appended w w' e s v v' n nw) : w.grownBy w' v.ownBlock := by
  rcases h with ⟨g, o, cap, rfl, _, _, hg, _⟩ | ⟨cap, c', _, _, _, hg, _⟩
  · exact hg
  · exact ⟨hg.os, hg.tape, hg.output, hg.size, fun k hk _ => hg.block k hk (by simp)⟩

theorem Appended.size_le (h : Appended w w' e s v v' n nw) : w.heap.size ≤ w'.heap.size := h.grown.size

theorem SliceIs.ap (h : SliceIs w e s v n x) (ha : Appended w w' e s v v' n nw) : SliceIs w' e s v' (n + 1) (fun j => if j < n * s then x j else nw (j - n * s)) := by
  have e1 : (n + 1) * s = n * s + s := by rw [Nat.add_mul, Nat.one_mul]
  rcases ha with ⟨g, o, cap, rfl, hroom, rfl, hg, _, hb⟩ | ⟨cap, c', rfl, hc1, hc2, hg, _, hb, hnew, hold⟩
  · rcases h with ⟨h, _⟩ | ⟨g', o', cap', sz, c, hv, h2, h3, h4, h5, h6⟩
    · simp at h
    · simp at hv
      obtain ⟨⟨rfl, rfl⟩, rfl⟩ := hv
      have e2 : (n + 1) * s ≤ cap * s := Nat.mul_le_mul_right _ hroom
      refine .inr ⟨g, o, cap, sz, _, rfl, hroom, h3, hb sz c h4 (by omega), h5, fun j hj => ?_⟩
      by_cases hj1 : j < n * s
      · have : ¬ (o + n * s ≤ o + j ∧ o + j < o + (n + 1) * s) := by omega
        simp only [this, hj1, if_false, if_true]
        exact h6 j hj1
      · have : o + n * s ≤ o + j ∧ o + j < o + (n + 1) * s := by omega
        simp only [this, hj1, if_false, and_self, if_true]
        congr 1
        omega
  · refine .inr ⟨w.heap.size, 0, cap, _, c', rfl, hc1, hc2, hb, by omega, fun j hj => ?_⟩
    rw [Nat.zero_add]
    by_cases hj1 : j < n * s
    · simp only [hj1, if_true]
      rcases h with ⟨_, h⟩ | ⟨g', o', cap', sz, c, hv, h2, h3, h4, h5, h6⟩
      · subst h; omega
      · have : n * s ≤ cap' * s := Nat.mul_le_mul_right _ h2
        rw [hold g' o' cap' sz c hv h4 (by omega) j hj1]
        exact h6 j hj1
    · simp only [hj1, if_false]
      have := hnew (j - n * s) (by omega)
      rw [← this]
      congr 1
      omega

/-- v is t0, lengthened in place; or it lies in a block from B on. -/
def Ext (B : Nat) (t0 : Value) (n0 : Nat) (v : Value) (n : Nat) : Prop :=
  (∃ g o cap, t0 = .slice (some ⟨g, o, none⟩) n0 cap ∧ v = .slice (some ⟨g, o, none⟩) n cap ∧ n0 ≤ n) ∨ (t0 = .slice none 0 0 ∧ v = .slice none 0 0) ∨ (∃ g cap, v = .slice (some ⟨g, 0, none⟩) n cap ∧ B ≤ g)

theorem Ext.refl (h : SliceIs w e s v n x) (B : Nat) : Ext B v n v n := by
  rcases h with ⟨rfl, _⟩ | ⟨g, o, cap, sz, c, rfl, _⟩
  · exact .inr (.inl ⟨rfl, rfl⟩)
  · exact .inl ⟨g, o, cap, rfl, rfl, Nat.le_refl _⟩

theorem Ext.ap {B n0 : Nat} {t0 : Value} (hB : B ≤ w.heap.size) (hx : Ext B t0 n0 v n) (ha : Appended w w' e s v v' n nw) : Ext B t0 n0 v' (n + 1) := by
  rcases ha with ⟨g, o, cap, rfl, hroom, rfl, _⟩ | ⟨cap, c', rfl, _⟩
  · rcases hx with ⟨g1, o1, cap1, rfl, h2, h3⟩ | ⟨_, h⟩ | ⟨g1, cap1, h1, h2⟩
    · simp at h2
      obtain ⟨⟨rfl, rfl⟩, rfl⟩ := h2
      exact .inl ⟨g, o, cap, rfl, rfl, by omega⟩
    · simp at h
    · simp at h1
      obtain ⟨⟨rfl, rfl⟩, rfl⟩ := h1
      exact .inr (.inr ⟨g, cap, rfl, h2⟩)
  · exact .inr (.inr ⟨w.heap.size, cap, rfl, hB⟩)

/-- The first slice reads as it did. -/
theorem Ext.keeps {B n0 : Nat} {t0 : Value} {x0 : Nat → Value} (hx : Ext B t0 n0 v n) (ha : Appended w w' e s v v' n nw) (h0 : SliceIs w e s t0 n0 x0) (ht : ∀ g, t0.ownBlock = some g → g < B) : SliceIs w' e s t0 n0 x0 := by
  rcases ha with ⟨g, o, cap, rfl, hroom, rfl, hg, hs, hb⟩ | ⟨cap, c', rfl, _, _, hg, _⟩
  · rcases hx with ⟨g1, o1, cap1, rfl, h2, h3⟩ | ⟨_, h⟩ | ⟨g1, cap1, h1, h2⟩
    · simp at h2
      obtain ⟨⟨rfl, rfl⟩, rfl⟩ := h2
      rcases h0 with ⟨h, _⟩ | ⟨g', o', cap', sz, c, hv, h2, h3', h4, h5, h6⟩
      · simp at h
      · simp at hv
        obtain ⟨⟨rfl, rfl⟩, rfl⟩ := hv
        have e2 : (n + 1) * s ≤ cap * s := Nat.mul_le_mul_right _ hroom
        have e3 : n0 * s ≤ n * s := Nat.mul_le_mul_right _ h3
        refine .inr ⟨g, o, cap, sz, _, rfl, h2, h3', hb sz c h4 (by omega), h5, fun j hj => ?_⟩
        have : ¬ (o + n * s ≤ o + j ∧ o + j < o + (n + 1) * s) := by omega
        simp only [this, if_false]
        exact h6 j hj
    · simp at h
    · simp at h1
      obtain ⟨⟨rfl, rfl⟩, rfl⟩ := h1
      exact h0.kept hg fun k hk hc => by
        simp at hc
        have := ht k hk
        omega
  · exact h0.kept hg fun k hk hc => by simp at hc

/-- What has turned since B was the heap's size: at most t0's own block. -/
theorem Ext.frame {w0 : World} {n0 : Nat} {t0 : Value} (hx : Ext w0.heap.size t0 n0 v n) (ha : Appended w w' e s v v' n nw) (h : w0.grownBy w t0.ownBlock) : w0.grownBy w' t0.ownBlock := by
  have hg := ha.grown
  refine ⟨hg.os.trans h.os, hg.tape.trans h.tape, hg.output.trans h.output, Nat.le_trans h.size hg.size, fun k hk hne => ?_⟩
  refine (hg.block k (Nat.lt_of_lt_of_le hk h.size) ?_).trans (h.block k hk hne)
  rcases hx with ⟨g1, o1, cap1, rfl, rfl, h3⟩ | ⟨rfl, rfl⟩ | ⟨g1, cap1, rfl, h2⟩
  · exact hne
  · simp [Value.ownBlock]
  · simp [Value.ownBlock]
    omega

theorem below_grown {w w' : World} (h : Below w.heap.size w w') (row : Option Nat) : w.grownBy w' row := ⟨h.os, h.tape, h.output, h.size, fun k hk _ => h.block k hk⟩

end

#print axioms Ext.frame
end Go.Proofs.Ybulkbzhm
