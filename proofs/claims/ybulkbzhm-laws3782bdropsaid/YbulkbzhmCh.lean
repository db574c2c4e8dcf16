/-
  What may turn, by the blocks' element types alone; maps are of the kind 999, whatever else of the kind 998.
-/
import Derived.Test.YbulkbzhmGrow
import Derived.Test.YbulkbzhmMapI
namespace Go.Proofs.Ybulkbzhm
set_option linter.unusedSectionVars false
variable [Base]
open Go.RowKit Go.Maps
open Go.WideShapes (add_plain)

/-- A block's kind: its element type; 999 for a map; 998 for whatever else. -/
def kindOf : Obj → TypeId
  | .cells _ e fz => if fz = (0, 0) then e else 998
  | .map _ _ => 999
  | _ => 998

/-- BLOCKS OF THE KINDS E ALONE HAVE TURNED. -/
structure Ch (E : TypeId → Prop) (w w' : World) : Prop where
  os : w'.os = w.os
  tape : w'.tape = w.tape
  output : w'.output = w.output
  size : w.heap.size ≤ w'.heap.size
  keep : ∀ (g : Nat) (o : Obj), w.heap[g]? = some o → ¬ E (kindOf o) → w'.heap[g]? = some o
  low : ∀ (g : Nat) (o : Obj), g < Base.n → w.heap[g]? = some o → w'.heap[g]? = some o

section
variable {E F : TypeId → Prop} {w w1 w2 : World}

theorem Ch.refl (E : TypeId → Prop) (w : World) : Ch E w w := ⟨rfl, rfl, rfl, Nat.le_refl _, fun _ _ h _ => h, fun _ _ _ h => h⟩

theorem Ch.mono (h : Ch E w w1) (hEF : ∀ e, E e → F e) : Ch F w w1 := ⟨h.os, h.tape, h.output, h.size, fun g o ho hn => h.keep g o ho fun he => hn (hEF _ he), h.low⟩

theorem Ch.trans (h : Ch E w w1) (k : Ch E w1 w2) : Ch E w w2 :=
  ⟨k.os.trans h.os, k.tape.trans h.tape, k.output.trans h.output, Nat.le_trans h.size k.size, fun g o ho hn => k.keep g o (h.keep g o ho hn) hn, fun g o hg ho => k.low g o hg (h.low g o hg ho)⟩

theorem Ch.drewN (h : Ch E w w1) (m : Nat) : Ch E w (w1.drewN m) := ⟨h.os, h.tape, h.output, h.size, h.keep, h.low⟩
theorem Ch.drew (h : Ch E w w1) : Ch E w w1.drew := ⟨h.os, h.tape, h.output, h.size, h.keep, h.low⟩

theorem Blk.kind {g : Nat} {e : TypeId} {sz : Nat} {c : Nat → Value} (hb : Blk w g e sz c) : ∃ o, w.heap[g]? = some o ∧ kindOf o = e := by
  obtain ⟨_, cur, h, _⟩ := hb
  exact ⟨_, h, by simp [kindOf]⟩

theorem Ch.one {g : Nat} {e : TypeId} {sz : Nat} {c : Nat → Value} (h : One g w w1) (hb : Blk w g e sz c) (he : E e) : Ch E w w1 :=
  ⟨h.os, h.tape, h.output, by rw [h.size]; exact Nat.le_refl _, fun k o ho hn => (h.block k fun hk => by
    subst hk
    obtain ⟨o', h1, h2⟩ := hb.kind
    rw [ho] at h1
    simp at h1
    subst h1
    rw [h2] at hn
    exact hn he).trans ho, fun k o hk ho => (h.block k fun e => by
    subst e
    have := hb.low
    omega).trans ho⟩

theorem Ch.setCell (h : Ch E w w1) {g : Nat} {e : TypeId} {sz : Nat} {c : Nat → Value} (hb : Blk w1 g e sz c) (he : E e) (i : Nat) (v : Value) : Ch E w (w1.setCell ⟨g, i, none⟩ v) :=
  h.trans (Ch.one ((One.refl g w1).setCell i v) hb he)

theorem Ch.below (h : Ch E w w1) (hb : Below w1.heap.size w1 w2) : Ch E w w2 :=
  h.trans ⟨hb.os, hb.tape, hb.output, hb.size, fun g _ ho _ => (hb.block g (Array.getElem?_eq_some_iff.1 ho).1).trans ho, fun g _ _ ho => (hb.block g (Array.getElem?_eq_some_iff.1 ho).1).trans ho⟩

theorem Ch.alloc (h : Ch E w w1) (o : Obj) : Ch E w (w1.alloc o) := by
  exact h.below ((Below.refl _ _).alloc (Nat.le_refl _) o)

theorem Ch.grown (h : Ch E w w1) {v : Value} (hg : w1.grownBy w2 v.ownBlock) (ht : ∀ g, v.ownBlock = some g → ∃ e sz c, E e ∧ Blk w1 g e sz c) : Ch E w w2 :=
  h.trans ⟨hg.os, hg.tape, hg.output, hg.size, fun g o ho hn => (hg.block g (Array.getElem?_eq_some_iff.1 ho).1 fun hc => by
    obtain ⟨e, sz, c, he, hb⟩ := ht g hc.symm
    obtain ⟨o', h1, h2⟩ := hb.kind
    rw [ho] at h1
    simp at h1
    subst h1
    rw [h2] at hn
    exact hn he).trans ho, fun g o hg2 ho => (hg.block g (Array.getElem?_eq_some_iff.1 ho).1 fun hc => by
    obtain ⟨e, sz, c, he, hb⟩ := ht g hc.symm
    have := hb.low
    omega).trans ho⟩

theorem Ch.app (h : Ch E w w1) {e : TypeId} {s n : Nat} {v v' : Value} {x nw : Nat → Value} (hs : SliceIs w1 e s v n x) (he : E e) (ha : Appended w1 w2 e s v v' n nw) : Ch E w w2 :=
  h.grown ha.grown fun _ hg => by
    obtain ⟨sz, c, hb⟩ := hs.typed hg
    exact ⟨e, sz, c, he, hb⟩

theorem Ch.map {b : Nat} (h : Ch E w w1) (ht : w1.mapTurned w2 b) (he : E 999) (hlow : Base.n ≤ b) : Ch E w w2 := by
  obtain ⟨es, clock, es', clock', hb, rfl⟩ := ht
  refine h.trans ?_
  have hg := World.mapTurned.grown (w := w1) (b := b) ⟨es, clock, es', clock', hb, rfl⟩
  refine ⟨hg.os, hg.tape, hg.output, hg.size, fun g o ho hn => (hg.block g (Array.getElem?_eq_some_iff.1 ho).1 fun hc => ?_).trans ho, fun g o hg2 ho => (hg.block g (Array.getElem?_eq_some_iff.1 ho).1 fun hc => by simp at hc; omega).trans ho⟩
  simp at hc
  subst hc
  rw [hb] at ho
  simp at ho
  subst ho
  exact hn he

theorem Ch.blk (h : Ch E w w1) {g : Nat} {e : TypeId} {sz : Nat} {c : Nat → Value} (hb : Blk w g e sz c) (hn : ¬ E e) : Blk w1 g e sz c := by
  obtain ⟨o, h1, h2⟩ := hb.kind
  exact hb.of_block ((h.keep g o h1 (by rw [h2]; exact hn)).trans h1.symm)

theorem Ch.slice (h : Ch E w w1) {e : TypeId} {s n : Nat} {v : Value} {x : Nat → Value} (hs : SliceIs w e s v n x) (hn : ¬ E e) : SliceIs w1 e s v n x :=
  hs.of_block fun g hg => by
    obtain ⟨sz, c, hb⟩ := hs.typed hg
    obtain ⟨o, h1, h2⟩ := hb.kind
    exact (h.keep g o h1 (by rw [h2]; exact hn)).trans h1.symm

end

/-! ### Rows of whole numbers: a family of slices, each with an array of its own -/

/-- The slice value v holds the list L (numbers of kind q, element type e), from the start of its own array. -/
def LRow (w : World) (e : TypeId) (q : IntKind) (v : Value) (L : List Nat) : Prop :=
  (v = .slice none 0 0 ∧ L = []) ∨ ∃ g cap sz c, v = .slice (some ⟨g, 0, none⟩) L.length cap ∧ L.length ≤ cap ∧ cap ≤ maxLen ∧ Blk w g e sz c ∧ cap ≤ sz ∧ ∀ j, j < L.length → c j = .int q ((L.getD j 0 : Nat) : Int)

theorem LRow.slice {w : World} {e : TypeId} {q : IntKind} {v : Value} {L : List Nat} (h : LRow w e q v L) : SliceIs w e 1 v L.length (fun j => .int q ((L.getD j 0 : Nat) : Int)) := by
  rcases h with ⟨rfl, rfl⟩ | ⟨g, cap, sz, c, rfl, h1, h2, h3, h4, h5⟩
  · exact SliceIs.nil _ _ _ _
  · exact .inr ⟨g, 0, cap, sz, c, rfl, h1, h2, h3, by omega, fun j hj => by simpa using h5 j (by omega)⟩

theorem LRow.of_block {w w' : World} {e : TypeId} {q : IntKind} {v : Value} {L : List Nat} (h : LRow w e q v L) (hb : ∀ g, v.ownBlock = some g → w'.heap[g]? = w.heap[g]?) : LRow w' e q v L := by
  rcases h with h | ⟨g, cap, sz, c, rfl, h1, h2, h3, h4, h5⟩
  · exact .inl h
  · exact .inr ⟨g, cap, sz, c, rfl, h1, h2, h3.of_block (hb g rfl), h4, h5⟩

theorem LRow.take {w : World} {e : TypeId} {q : IntKind} {g n cap : Nat} {L : List Nat} (h : LRow w e q (.slice (some ⟨g, 0, none⟩) n cap) L) {m : Nat} (hm : m ≤ L.length) : LRow w e q (.slice (some ⟨g, 0, none⟩) m cap) (L.take m) := by
  rcases h with ⟨h, _⟩ | ⟨g', cap', sz, c, hv, h1, h2, h3, h4, h5⟩
  · simp at h
  · simp at hv
    obtain ⟨rfl, hn, rfl⟩ := hv
    have hl : (L.take m).length = m := by simp; omega
    refine .inr ⟨g, cap, sz, c, by rw [hl], by omega, h2, h3, h4, fun j hj => ?_⟩
    rw [hl] at hj
    rw [h5 j (by omega)]
    simp [List.getD, hj]

theorem LRow.append {w w' : World} {e : TypeId} {q : IntKind} {v v' : Value} {L : List Nat} (h : LRow w e q v L) (a : Nat) (ha : Appended w w' e 1 v v' L.length (fun _ => .int q (a : Int))) : LRow w' e q v' (L ++ [a]) := by
  have hget : ∀ j, j < L.length → ((L ++ [a]).getD j 0) = L.getD j 0 := fun j hj => by simp [List.getD, List.getElem?_append_left hj]
  have hlast : (L ++ [a]).getD L.length 0 = a := by simp [List.getD]
  rcases ha with ⟨g, o, cap, rfl, hroom, rfl, hg, hsz, hbk⟩ | ⟨cap, c', rfl, hroom, hcm, hg, hsz, hbk, hnew, hold⟩
  · rcases h with ⟨h, _⟩ | ⟨g', cap', sz, c, hv, h1, h2, h3, h4, h5⟩
    · simp at h
    · simp at hv
      obtain ⟨⟨rfl, rfl⟩, rfl⟩ := hv
      refine .inr ⟨g, cap, sz, _, by simp, by simp; omega, h2, hbk sz c h3 (by omega), h4, fun j hj => ?_⟩
      simp at hj
      by_cases e1 : j = L.length
      · subst e1
        simp
      · have e2 : j < L.length := by omega
        have e3 : ¬ (L.length ≤ j) := by omega
        rw [hget j e2, ← h5 j e2]
        simp [e3]
  · refine .inr ⟨w.heap.size, cap, cap * 1, c', by simp, by simp; omega, hcm, hbk, by omega, fun j hj => ?_⟩
    simp at hj
    by_cases e1 : j = L.length
    · subst e1
      rw [hlast]
      simpa using hnew 0 (by omega)
    · have e2 : j < L.length := by omega
      rw [hget j e2]
      rcases h with ⟨_, rfl⟩ | ⟨g, cap', sz, c, rfl, h1, h2, h3, h4, h5⟩
      · simp at e2
      · have := hold g 0 cap' sz c rfl h3 (by omega) j (by omega)
        rw [this]
        simpa using h5 j e2

theorem LRow.set {w : World} {e : TypeId} {q : IntKind} {g n cap : Nat} {L : List Nat} (h : LRow w e q (.slice (some ⟨g, 0, none⟩) n cap) L) (i a : Nat) : LRow (w.setCell ⟨g, i, none⟩ (.int q (a : Int))) e q (.slice (some ⟨g, 0, none⟩) n cap) (L.set i a) := by
  rcases h with ⟨h, _⟩ | ⟨g', cap', sz, c, hv, h1, h2, h3, h4, h5⟩
  · simp at h
  · simp at hv
    obtain ⟨rfl, hn, rfl⟩ := hv
    refine .inr ⟨g, cap, sz, _, by simp [hn], by simpa using h1, h2, h3.set i _, h4, fun j hj => ?_⟩
    simp at hj
    by_cases e1 : j = i
    · subst e1
      simp [List.getD, hj]
    · have e2 : ¬ i = j := fun h => e1 h.symm
      simp only [e1, if_false]
      rw [h5 j hj]
      simp [List.getD, e2]

/-- A kind of row: it speaks of its own block alone. -/
structure Loc {α : Type} (e : TypeId) (R : World → Value → α → Prop) : Prop where
  keep : ∀ {w w' : World} {v : Value} {a : α}, R w v a → (∀ g, v.ownBlock = some g → w'.heap[g]? = w.heap[g]?) → R w' v a
  typed : ∀ {w : World} {v : Value} {a : α} {g : Nat}, R w v a → v.ownBlock = some g → ∃ sz c, Blk w g e sz c

/-- A FAMILY OF ROWS, each with a block of its own. -/
structure Fam {ι α : Type} (R : World → Value → α → Prop) (w : World) (v : ι → Value) (L : ι → α) : Prop where
  row : ∀ i, R w (v i) (L i)
  own : ∀ i j g, (v i).ownBlock = some g → (v j).ownBlock = some g → i = j

def upd {ι α : Type} [DecidableEq ι] (f : ι → α) (i : ι) (a : α) : ι → α := fun j => if j = i then a else f j

section
variable {ι α : Type} [DecidableEq ι] {R : World → Value → α → Prop} {w w' : World} {e : TypeId} {v : ι → Value} {L : ι → α}

theorem upd_same {β : Type} (f : ι → β) (i : ι) (a : β) : upd f i a i = a := by simp [upd]
theorem upd_other {β : Type} (f : ι → β) {i j : ι} (a : β) (h : j ≠ i) : upd f i a j = f j := by simp [upd, h]
theorem upd_self {β : Type} (f : ι → β) (i : ι) : upd f i (f i) = f := by
  funext j
  by_cases hj : j = i <;> simp [upd, hj]
theorem upd_upd {β : Type} (f : ι → β) (i : ι) (a b : β) : upd (upd f i a) i b = upd f i b := by
  funext j
  by_cases hj : j = i <;> simp [upd, hj]

omit [DecidableEq ι] in
theorem Fam.of_blocks (h : Fam R w v L) (hL : Loc e R) (hb : ∀ g sz c, Blk w g e sz c → w'.heap[g]? = w.heap[g]?) : Fam R w' v L :=
  ⟨fun i => hL.keep (h.row i) fun g hg => by
    obtain ⟨sz, c, hk⟩ := hL.typed (h.row i) hg
    exact hb g sz c hk, h.own⟩

omit [DecidableEq ι] in
theorem Fam.ch {E : TypeId → Prop} (h : Fam R w v L) (hL : Loc e R) (hc : Ch E w w') (hn : ¬ E e) : Fam R w' v L :=
  h.of_blocks hL fun g sz c hk => by
    obtain ⟨o, h1, h2⟩ := hk.kind
    exact (hc.keep g o h1 (by rw [h2]; exact hn)).trans h1.symm

omit [DecidableEq ι] in
theorem Fam.below (h : Fam R w v L) (hL : Loc e R) (hb : Below w.heap.size w w') : Fam R w' v L := h.of_blocks hL fun g _ _ hk => hb.block g hk.lt

/-- One row changes by a step that keeps the other rows' blocks. -/
theorem Fam.turn (h : Fam R w v L) (hL : Loc e R) (i : ι) {v' : Value} {L' : α} (hr : R w' v' L') (hb : ∀ g, g < w.heap.size → (v i).ownBlock ≠ some g → w'.heap[g]? = w.heap[g]?) (hv : ∀ g, v'.ownBlock = some g → (v i).ownBlock = some g ∨ w.heap.size ≤ g) : Fam R w' (upd v i v') (upd L i L') := by
  have hlt : ∀ j g, (v j).ownBlock = some g → g < w.heap.size := fun j g hg => by
    obtain ⟨sz, c, hk⟩ := hL.typed (h.row j) hg
    exact hk.lt
  refine ⟨fun j => ?_, fun j k g hj hk => ?_⟩
  · by_cases hji : j = i
    · subst hji
      simpa [upd] using hr
    · rw [upd_other _ _ hji, upd_other _ _ hji]
      exact hL.keep (h.row j) fun g hg => hb g (hlt j g hg) fun hi => hji (h.own j i g hg hi)
  · by_cases hji : j = i
    · by_cases hki : k = i
      · rw [hji, hki]
      · rw [upd_other _ _ hki] at hk
        rw [hji, upd_same] at hj
        rcases hv g hj with h1 | h1
        · rw [hji]; exact h.own i k g h1 hk
        · have := hlt k g hk; omega
    · rw [upd_other _ _ hji] at hj
      by_cases hki : k = i
      · rw [hki, upd_same] at hk
        rcases hv g hk with h1 | h1
        · rw [hki]; exact h.own j i g hj h1
        · have := hlt j g hj; omega
      · rw [upd_other _ _ hki] at hk
        exact h.own j k g hj hk

omit [DecidableEq ι] in
/-- The rows under other names. -/
theorem Fam.rename {κ : Type} (h : Fam R w v L) (σ : κ → ι) (hσ : ∀ a b, σ a = σ b → a = b) : Fam R w (fun k => v (σ k)) (fun k => L (σ k)) :=
  ⟨fun k => h.row (σ k), fun a b g ha hb => hσ a b (h.own _ _ g ha hb)⟩

end

theorem Appended.own {w w' : World} {e : TypeId} {s : Nat} {v v' : Value} {n : Nat} {nw : Nat → Value} (h : Appended w w' e s v v' n nw) : ∀ g, v'.ownBlock = some g → v.ownBlock = some g ∨ w.heap.size ≤ g := by
  rcases h with ⟨g, o, cap, rfl, _, rfl, _⟩ | ⟨cap, c', rfl, _⟩
  · exact fun g' hg => .inl hg
  · intro g' hg
    simp [Value.ownBlock] at hg
    exact .inr (by omega)

theorem LRow.loc (e : TypeId) (q : IntKind) : Loc e (fun w v L => LRow w e q v L) := ⟨fun h hb => h.of_block hb, fun h hg => h.slice.typed hg⟩

abbrev LRows {ι : Type} (w : World) (e : TypeId) (q : IntKind) (v : ι → Value) (L : ι → List Nat) : Prop := Fam (fun w v L => LRow w e q v L) w v L

section
variable {ι : Type} [DecidableEq ι] {w w' : World} {e : TypeId} {q : IntKind} {v : ι → Value} {L : ι → List Nat}

theorem LRows.append (h : LRows w e q v L) (i : ι) (a : Nat) {v' : Value} (ha : Appended w w' e 1 (v i) v' (L i).length (fun _ => .int q (a : Int))) : LRows w' e q (upd v i v') (upd L i (L i ++ [a])) :=
  Fam.turn h (LRow.loc e q) i ((h.row i).append a ha) (fun g hg hn => ha.grown.block g hg fun hc => hn hc.symm) ha.own

theorem LRows.set (h : LRows w e q v L) (i : ι) {g n cap : Nat} (hv : v i = .slice (some ⟨g, 0, none⟩) n cap) (k a : Nat) : LRows (w.setCell ⟨g, k, none⟩ (.int q (a : Int))) e q v (upd L i ((L i).set k a)) := by
  have hr := h.row i
  rw [hv] at hr
  have := Fam.turn (w' := w.setCell ⟨g, k, none⟩ (.int q (a : Int))) h (LRow.loc e q) i (hr.set k a) (fun g' _ hn => heap_setCell_other _ _ _ _ fun hc => hn (by rw [hv]; simp at hc; simp [Value.ownBlock, hc])) (fun g' hg' => .inl (by rw [hv]; exact hg'))
  rw [← hv, upd_self] at this
  exact this

theorem LRows.take (h : LRows w e q v L) (i : ι) {g n cap : Nat} (hv : v i = .slice (some ⟨g, 0, none⟩) n cap) {m : Nat} (hm : m ≤ (L i).length) : LRows w e q (upd v i (.slice (some ⟨g, 0, none⟩) m cap)) (upd L i ((L i).take m)) := by
  have hr := h.row i
  rw [hv] at hr
  exact Fam.turn h (LRow.loc e q) i (hr.take hm) (fun _ _ _ => rfl) fun g' hg' => .inl (by rw [hv]; exact hg')

end

#print axioms LRows.take
end Go.Proofs.Ybulkbzhm
