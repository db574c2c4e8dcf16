import Derived.Test.YbulkbzccAge
import Derived.Maps.RangeWalk
namespace Go.Proofs.Ybulkbzcc
open Go.RowKit Go.Maps

section
variable {w w' : World} {B C M n k : Nat} {cyc : Int} {f : Int → Option Value} {o : Int → Bool} {s : Int → Int}

theorem CacheOK.of_blocks (h : CacheOK w B C M n k cyc f o s) (hb : ∀ g e sz c, Blk w g e sz c → w'.heap[g]? = w.heap[g]?) (hM : w'.heap[M]? = w.heap[M]?) : CacheOK w' B C M n k cyc f o s := by
  obtain ⟨hBC, ⟨c, hC, c0, c1, c2, c13, ⟨lb, lo, c11, hlb⟩, no, xs, hno, hold, hog⟩, hmap, hent⟩ := h
  refine ⟨hBC, ⟨c, hC.of_block (hb _ _ _ _ hC), c0, c1, c2, c13, ⟨lb, lo, c11, ?_⟩, no, xs, hno, hold.of_block (fun g hg => ?_), hog⟩, hmap.of_block hM, fun x v hv => ?_⟩
  · rcases hlb with h | ⟨h1, h2, ce, h3⟩
    · exact .inl h
    · exact .inr ⟨h1, h2, ce, h3.of_block (hb _ _ _ _ h3)⟩
  · obtain ⟨sz, cg, hbg⟩ := hold.typed hg
    exact hb _ _ _ _ hbg
  · obtain ⟨E, rfl, hBE, ce, h1, r⟩ := hent x v hv
    exact ⟨E, rfl, hBE, ce, h1.of_block (hb _ _ _ _ h1), r⟩

/-- Two items have two entries. -/
theorem CacheOK.inj (h : CacheOK w B C M n k cyc f o s) {x y : Int} {E : Nat} (hx : f x = some (.pointer (some ⟨E, 0, none⟩))) (hy : f y = some (.pointer (some ⟨E, 0, none⟩))) : x = y := by
  obtain ⟨E1, e1, _, c1, b1, h1, _⟩ := h.ent x _ hx
  obtain ⟨E2, e2, _, c2, b2, h2, _⟩ := h.ent y _ hy
  simp at e1 e2
  subst e1
  subst e2
  have := (b1.size_eq b2).2.2 3 (by omega)
  rw [h1, h2] at this
  simpa using this

/-- No block of cells is written but the cache's own: maps and iterators stay. -/
def NoCells (w w' : World) : Prop := w'.os = w.os ∧ w'.tape = w.tape ∧ w'.output = w.output ∧ w.heap.size ≤ w'.heap.size ∧ ∀ g, g < w.heap.size → (∀ e sz c, ¬ Blk w g e sz c) → w'.heap[g]? = w.heap[g]?

theorem mark_yes (x : Int) (E : Nat) (cy : Int) (h : CacheOK w B C M n k cyc f o s) (hf : f x = some (.pointer (some ⟨E, 0, none⟩))) (ho : o x = true) :
    Calls Yba.prog 25 #[.pointer (some ⟨C, 0, none⟩), .pointer (some ⟨E, 0, none⟩), .int .i64 cy] w fun e w' => e = .returned (.tuple #[]) ∧ w' = w := by
  obtain ⟨E1, e1, _, ce, hE, _, e4, _⟩ := h.ent x _ hf
  simp at e1
  subst e1
  obtain ⟨_, ⟨c, hC, _, c1, _⟩, _, _⟩ := h
  have g1 := hC.cell (i := 1) (by omega)
  rw [c1] at g1
  have k4 := hE.cell (i := 4) (by omega)
  rw [e4, ho] at k4
  clear hf ho e4 c1
  go_enter Yba.func25, Yba.ntmps25
  go_wp2
  go_end0
  exact ⟨rfl, rfl⟩

theorem mark_no (x : Int) (E : Nat) (cy : Int) (h : CacheOK w B C M n k cyc f o s) (hf : f x = some (.pointer (some ⟨E, 0, none⟩))) (ho : o x = false) (hk : k ≤ 900) (hBw : B ≤ w.heap.size) :
    Calls Yba.prog 25 #[.pointer (some ⟨C, 0, none⟩), .pointer (some ⟨E, 0, none⟩), .int .i64 cy] w fun e w' => e = .returned (.tuple #[]) ∧ CacheOK w' B C M n (k + 1) cyc f (fun y => if y = x then true else o y) (fun y => if y = x then cy else s y) ∧ NoCells w w' ∧ Below B w w' := by
  have h0 := h
  obtain ⟨E1, e1, hBE, ce, hE, e3, e4, _⟩ := h.ent x _ hf
  simp at e1
  subst e1
  obtain ⟨⟨hBC, hBM⟩, ⟨c, hC, c0, c1, c2, c13, ⟨lb, lo, c11, hlb⟩, no, xs, hno, hold, hog⟩, hmap, hent⟩ := h
  have g1 := hC.cell (i := 1) (by omega)
  rw [c1] at g1
  have k4 := hE.cell (i := 4) (by omega)
  rw [ho] at e4
  rw [e4] at k4
  have HF : Hid (f x = some (.pointer (some ⟨E, 0, none⟩))) := hf
  have H13 : Hid (c 13 = .int .i64 cyc) := c13
  have H0 : Hid (c 0 = .int .i64 4) := c0
  have H1 : Hid (c 1 = .int .i64 0) := c1
  have H2 : Hid (c 2 = .map (some M)) := c2
  have H3 : Hid (ce 3 = .int .i64 x) := e3
  have H11 : Hid (c 11 = .pointer (some ⟨lb, lo, none⟩)) := c11
  clear hf ho c13 c0 c1 c2 e3 c11
  go_enter Yba.func25, Yba.ntmps25
  go_wp2_with (go_at_call 30; refine (age_any C E no cy c ce xs _ hC hE e4 hold (by omega)).mono ?_; rintro e w1 ⟨rfl, hag⟩)
  go_end0
  obtain ⟨v', ys, hC1, hS1, hown, ⟨ce', hE1, n4, n5, nj⟩, os1, tp1, ou1, sz1, hkeep⟩ := hag
  have hCE : C ≠ E := hC.ne hE (by decide)
  have hMC : C ≠ M := hmap.ne_blk hC
  have hME : E ≠ M := hmap.ne_blk hE
  have hMo : some M ≠ (c 12).ownBlock := fun hm => by
    obtain ⟨sz, cg, hbg⟩ := hold.typed hm.symm
    exact hmap.ne_blk hbg rfl
  have other84 : ∀ {E' : Nat} {cl : Nat → Value}, Blk w E' 84 9 cl → E' ≠ E → w1.heap[E']? = w.heap[E']? := fun hb hne => hkeep _ hb.lt (fun h => absurd h (hC.ne hb (by decide)).symm) hne fun hm => by
    obtain ⟨sz, cg, hbg⟩ := hold.typed hm.symm
    exact hbg.ne hb (by decide) rfl
  refine ⟨rfl, ⟨⟨hBC, hBM⟩, ⟨_, hC1, by simp [H0.out], by simp [H1.out], by simp [H2.out], by simp [H13.out], ⟨lb, lo, by simp [H11.out], ?_⟩, no + 1, ys, by omega, by simpa using hS1, ?_⟩, hmap.of_block (hkeep M hmap.lt hMC.symm hME.symm hMo), fun y v hy => ?_⟩, ⟨os1, tp1, ou1, sz1, fun g hg hno' => hkeep g hg (fun h => hno' _ _ _ (h ▸ hC)) (fun h => hno' _ _ _ (h ▸ hE)) (fun hm => ?_)⟩, ⟨os1, tp1, ou1, sz1, fun g hg => hkeep g (by omega) (by omega) (by omega) (fun hm => ?_)⟩⟩
  · rcases hlb with h | ⟨h1, h2, cl, h3⟩
    · exact .inl h
    · refine .inr ⟨h1, h2, ?_⟩
      by_cases e : lb = E
      · subst e
        exact ⟨ce', hE1⟩
      · exact ⟨cl, h3.of_block (other84 h3 e)⟩
  · intro g hg
    simp at hg
    rcases hown g hg with h | h
    · exact hog g h
    · omega
  · obtain ⟨E', rfl, hB', cy', hb', r3, r4, r5⟩ := hent y v hy
    by_cases e : E' = E
    · subst e
      have hyx : y = x := h0.inj hy HF.out
      subst hyx
      exact ⟨E', rfl, hB', ce', hE1, by rw [nj 3 (by omega) (by omega) (by omega)]; exact H3.out, by simpa using n4, by simpa using n5⟩
    · have hyx : y ≠ x := fun h => by
        subst h
        rw [HF.out] at hy
        simp at hy
      refine ⟨E', rfl, hB', cy', hb'.of_block (other84 hb' e), r3, ?_, ?_⟩
      · simpa [hyx] using r4
      · simpa [hyx] using r5
  · obtain ⟨sz, cg, hbg⟩ := hold.typed hm.symm
    exact hno' _ _ _ hbg
  · have := hog g hm.symm
    omega

end
#print axioms mark_no
end Go.Proofs.Ybulkbzcc
