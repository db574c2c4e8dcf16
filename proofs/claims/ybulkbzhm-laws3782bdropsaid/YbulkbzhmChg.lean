/-
  What may turn, by the blocks' element types and a list of foreign blocks.
-/
import Derived.Test.YbulkbzhmApp2
namespace Go.Proofs.Ybulkbzhm
set_option linter.unusedSectionVars false
variable [Base]
open Go.RowKit
open Go.WideShapes (add_plain)

/-- BLOCKS OF THE ELEMENT TYPES E ALONE HAVE TURNED, none of them foreign (X). -/
structure Chg (X : Nat → Prop) (E : TypeId → Prop) (w w' : World) : Prop where
  os : w'.os = w.os
  tape : w'.tape = w.tape
  output : w'.output = w.output
  size : w.heap.size ≤ w'.heap.size
  keep : ∀ g e sz c, Blk w g e sz c → ¬ E e → w'.heap[g]? = w.heap[g]?
  fr : ∀ g, X g → w'.heap[g]? = w.heap[g]?

section
variable {X : Nat → Prop} {E F : TypeId → Prop} {w w1 w2 : World}

theorem Chg.refl (X : Nat → Prop) (E : TypeId → Prop) (w : World) : Chg X E w w := ⟨rfl, rfl, rfl, Nat.le_refl _, fun _ _ _ _ _ _ => rfl, fun _ _ => rfl⟩

theorem Chg.mono (h : Chg X E w w1) (hEF : ∀ e, E e → F e) : Chg X F w w1 := ⟨h.os, h.tape, h.output, h.size, fun g e sz c hb hn => h.keep g e sz c hb fun he => hn (hEF e he), h.fr⟩

theorem Chg.trans (h : Chg X E w w1) (k : Chg X E w1 w2) : Chg X E w w2 :=
  ⟨k.os.trans h.os, k.tape.trans h.tape, k.output.trans h.output, Nat.le_trans h.size k.size, fun g e sz c hb hn => (k.keep g e sz c (hb.of_block (h.keep g e sz c hb hn)) hn).trans (h.keep g e sz c hb hn), fun g hg => (k.fr g hg).trans (h.fr g hg)⟩

theorem Chg.drew (h : Chg X E w w1) : Chg X E w w1.drew := ⟨h.os, h.tape, h.output, h.size, h.keep, h.fr⟩

theorem Chg.setCell (h : Chg X E w w1) {g : Nat} {e : TypeId} {sz : Nat} {c : Nat → Value} (hb : Blk w1 g e sz c) (hX : ¬ X g) (he : E e) (i : Nat) (v : Value) : Chg X E w (w1.setCell ⟨g, i, none⟩ v) := by
  refine h.trans ⟨rfl, rfl, rfl, by simp, fun g' e' sz' c' hb' hn => heap_setCell_other _ _ _ _ fun hg => ?_, fun g' hg => heap_setCell_other _ _ _ _ fun hg' => hX (by have h : g' = g := hg'; rw [← h]; exact hg)⟩
  dsimp only at hg
  subst hg
  have := (hb.size_eq hb').1
  subst this
  exact hn he

theorem Chg.below (h : Chg X E w w1) (hX : ∀ g, X g → g < w1.heap.size) (hb : Below w1.heap.size w1 w2) : Chg X E w w2 :=
  h.trans ⟨hb.os, hb.tape, hb.output, hb.size, fun g _ _ _ hk _ => hb.block g hk.lt, fun g hg => hb.block g (hX g hg)⟩

theorem Chg.alloc (h : Chg X E w w1) (hX : ∀ g, X g → g < w1.heap.size) (o : Obj) : Chg X E w (w1.alloc o) :=
  h.below hX ((Below.refl _ _).alloc (Nat.le_refl _) o)

theorem Chg.app (h : Chg X E w w1) (hX : ∀ g, X g → g < w1.heap.size) {e : TypeId} {s n : Nat} {v v' : Value} {x nw : Nat → Value} (hs : SliceIs w1 e s v n x) (hv : ∀ g, v.ownBlock = some g → ¬ X g) (he : E e) (ha : Appended w1 w2 e s v v' n nw) : Chg X E w w2 := by
  have hg := ha.grown
  refine h.trans ⟨hg.os, hg.tape, hg.output, hg.size, fun g e' sz' c' hb' hn => hg.block g hb'.lt fun hc => ?_, fun g hx => hg.block g (hX g hx) fun hc => hv g hc.symm hx⟩
  obtain ⟨sz, c, hb⟩ := hs.typed hc.symm
  have := (hb.size_eq hb').1
  subst this
  exact hn he

theorem Chg.blk (h : Chg X E w w1) {g : Nat} {e : TypeId} {sz : Nat} {c : Nat → Value} (hb : Blk w g e sz c) (hn : ¬ E e) : Blk w1 g e sz c := hb.of_block (h.keep g e sz c hb hn)

theorem Chg.slice (h : Chg X E w w1) {e : TypeId} {s n : Nat} {v : Value} {x : Nat → Value} (hs : SliceIs w e s v n x) (hn : ¬ E e) : SliceIs w1 e s v n x :=
  hs.of_block fun g hg => by
    obtain ⟨sz, c, hb⟩ := hs.typed hg
    exact h.keep g e sz c hb hn

end

/-- A slice of the log's own: it reads; its row is not foreign. -/
def Wf (w : World) (X : Nat → Prop) (e : TypeId) (s : Nat) (v : Value) (n : Nat) : Prop := (∃ x, SliceIs w e s v n x) ∧ ∀ g, v.ownBlock = some g → ¬ X g

theorem Wf.chg {X : Nat → Prop} {E : TypeId → Prop} {w w1 : World} {e : TypeId} {s n : Nat} {v : Value} (h : Wf w X e s v n) (hc : Chg X E w w1) (hn : ¬ E e) : Wf w1 X e s v n := by
  obtain ⟨⟨x, hx⟩, hv⟩ := h
  exact ⟨⟨x, hc.slice hx hn⟩, hv⟩

/-- Where a block of one's own type turns, its size stands. -/
theorem Wf.resized {X : Nat → Prop} {w w1 : World} {e : TypeId} {s n : Nat} {v : Value} (h : Wf w X e s v n) (hb : ∀ g sz c, v.ownBlock = some g → Blk w g e sz c → ∃ c', Blk w1 g e sz c') : Wf w1 X e s v n := by
  obtain ⟨⟨x, hx⟩, hv⟩ := h
  refine ⟨?_, hv⟩
  rcases hx with h0 | ⟨g, o, cap, sz, c, rfl, h2, h3, h4, h5, h6⟩
  · exact ⟨x, .inl h0⟩
  · obtain ⟨c', hc'⟩ := hb g sz c rfl h4
    exact ⟨fun j => c' (o + j), .inr ⟨g, o, cap, sz, c', rfl, h2, h3, hc', h5, fun j _ => rfl⟩⟩

theorem Appended.resize {w w' : World} {e : TypeId} {s : Nat} {v v' : Value} {n : Nat} {nw x : Nat → Value} (h : Appended w w' e s v v' n nw) (hs : SliceIs w e s v n x) {g sz : Nat} {c : Nat → Value} (hb : Blk w g e sz c) : ∃ c', Blk w' g e sz c' := by
  rcases h with ⟨g', o, cap, rfl, hroom, rfl, hg, _, hbk⟩ | ⟨cap, c', rfl, _, _, hg, _⟩
  · by_cases eg : g = g'
    · subst eg
      rcases hs with ⟨h0, _⟩ | ⟨g2, o2, cap2, sz2, c2, hv, h2, h3, h4, h5, h6⟩
      · simp at h0
      · simp at hv
        obtain ⟨⟨rfl, rfl⟩, rfl⟩ := hv
        obtain ⟨_, rfl, _⟩ := hb.size_eq h4
        have : (n + 1) * s ≤ cap * s := Nat.mul_le_mul_right _ hroom
        exact ⟨_, hbk _ c hb (by omega)⟩
    · exact ⟨c, hb.of_block (hg.block g hb.lt (by simpa using eg))⟩
  · exact ⟨c, hb.of_block (hg.block g hb.lt (by simp))⟩

/-- Another slice of the same type behind an append. -/
theorem Wf.app {X : Nat → Prop} {w w1 : World} {e : TypeId} {s n m s' : Nat} {v u u' : Value} {x nw : Nat → Value} (h : Wf w X e s v n) (hs : SliceIs w e s' u m x) (ha : Appended w w1 e s' u u' m nw) : Wf w1 X e s v n :=
  h.resized fun _ _ _ _ hb => ha.resize hs hb

/-- The slice itself behind the append. -/
theorem Wf.apd {X : Nat → Prop} {w w1 : World} {e : TypeId} {s n : Nat} {v v' : Value} {nw : Nat → Value} (h : Wf w X e s v n) (ha : Appended w w1 e s v v' n nw) (hX : ∀ g, X g → g < w.heap.size) : Wf w1 X e s v' (n + 1) := by
  obtain ⟨⟨x, hx⟩, hv⟩ := h
  refine ⟨⟨_, hx.ap ha⟩, fun g hg hxg => ?_⟩
  rcases ha with ⟨g', o, cap, rfl, _, rfl, _⟩ | ⟨cap, c', rfl, _⟩
  · exact hv g hg hxg
  · simp [Value.ownBlock] at hg
    have := hX g hxg
    omega

end Go.Proofs.Ybulkbzhm
