/-
  THE WHOLE LOG, AND WHAT EACH STEP OF A COMMIT LEAVES OF IT.
-/
import Derived.Test.YbulkbzccOpen26
namespace Go.Proofs.Ybulkbzcc
open Go.RowKit
open Go.WideShapes (add_plain)

/-- The element types of the blocks that 'record' may turn. -/
def Er (e : TypeId) : Prop := e = 75 ∨ e = 94 ∨ e = 79 ∨ e = 105 ∨ e = 29 ∨ e = 3 ∨ e = 97 ∨ e = 100 ∨ e = 2

structure LogC (w : World) (X : Nat → Prop) (L K O G n T : Nat) (c : Nat → Value) (lat : Nat → Int) (cnt : Nat → Nat) (nq : Nat) (qi : Nat → Nat) : Prop where
  st : StoreC w X L K n c lat cnt nq qi
  c12 : c 12 = .slice (some ⟨O, 0, none⟩) (n + 1) (n + 1)
  c13 : c 13 = .slice (some ⟨G, 0, none⟩) (n + 1) (n + 1)
  txns : ∃ m, m ≤ T ∧ Wf w X 29 1 (c 9) m
  servers : ∃ m, m ≤ T ∧ Wf w X 3 1 (c 10) m
  touched : ∃ m, m ≤ T ∧ Wf w X 3 1 (c 14) m
  nO : ¬ X O
  on : ∃ co, Blk w O 97 (n + 1) co ∧ ∀ i, i ≤ n → ∃ m, m ≤ T ∧ Wf w X 100 4 (co i) m
  nG : ¬ X G
  begun : ∃ cg : Nat → Int, Blk w G 2 (n + 1) (fun i => .int .i64 (cg i))

section
variable {w w' w1 : World} {X : Nat → Prop} {E : TypeId → Prop} {L K O G n T : Nat} {c c' : Nat → Value} {lat lat' : Nat → Int} {cnt cnt' : Nat → Nat} {nq nq' : Nat} {qi qi' : Nat → Nat}

theorem StoreC.chg (h : StoreC w X L K n c lat cnt nq qi) (hc : Chg X E w w') (h1 : ¬ E 75) (h2 : ¬ E 94) (h3 : ¬ E 79) (h4 : ¬ E 105) : StoreC w' X L K n c lat cnt nq qi := by
  obtain ⟨hb, nX, c3, hk, c5, c6, c7, ⟨x, hq, hqi⟩, qX⟩ := h
  exact ⟨hc.blk hb h1, nX, c3, hk.chg hc h2 h3, c5, c6, c7, ⟨x, hc.slice hq h4, hqi⟩, qX⟩

theorem StoreC.setL (h : StoreC w X L K n c lat cnt nq qi) (hb : Blk w' L 75 15 c') (hc : Chg X (fun e => e = 75) w w') (h3 : c' 3 = c 3) (h4 : c' 4 = c 4) (h5 : c' 5 = c 5) (h6 : c' 6 = c 6) (h7 : c' 7 = c 7) : StoreC w' X L K n c' lat cnt nq qi := by
  obtain ⟨_, nX, c3, hk, c5, c6, c7, ⟨x, hq, hqi⟩, qX⟩ := h
  exact ⟨hb, nX, h3.trans c3, hk.chg hc (by decide) (by decide), h5.trans c5, by rw [h6]; exact c6, by rw [h7]; exact c7, ⟨x, by rw [h4]; exact hc.slice hq (by decide), hqi⟩, by rw [h4]; exact qX⟩

/-- The store has turned. -/
theorem LogC.store (h : LogC w X L K O G n T c lat cnt nq qi) (hs : StoreC w' X L K n c' lat' cnt' nq' qi') (hcc : ∀ j, j ≠ 4 → j ≠ 6 → j ≠ 7 → c' j = c j) (hc : Chg X Es w w') : LogC w' X L K O G n T c' lat' cnt' nq' qi' := by
  obtain ⟨_, c12, c13, ⟨m1, t1, w1⟩, ⟨m2, t2, w2⟩, ⟨m3, t3, w3⟩, nO, ⟨co, bo, ho⟩, nG, ⟨cg, bg⟩⟩ := h
  refine ⟨hs, (hcc 12 (by decide) (by decide) (by decide)).trans c12, (hcc 13 (by decide) (by decide) (by decide)).trans c13, ⟨m1, t1, ?_⟩, ⟨m2, t2, ?_⟩, ⟨m3, t3, ?_⟩, nO, ⟨co, hc.blk bo (by unfold Es; decide), fun i hi => ?_⟩, nG, ⟨cg, hc.blk bg (by unfold Es; decide)⟩⟩
  · rw [hcc 9 (by decide) (by decide) (by decide)]; exact w1.chg hc (by unfold Es; decide)
  · rw [hcc 10 (by decide) (by decide) (by decide)]; exact w2.chg hc (by unfold Es; decide)
  · rw [hcc 14 (by decide) (by decide) (by decide)]; exact w3.chg hc (by unfold Es; decide)
  · obtain ⟨m, hm, hw⟩ := ho i hi
    exact ⟨m, hm, hw.chg hc (by unfold Es; decide)⟩

/-- A cell of the log's own, none of the slices', has turned. -/
theorem LogC.cell (h : LogC w X L K O G n T c lat cnt nq qi) (hb : Blk w' L 75 15 c') (hcc : ∀ j, j ≠ 1 → j ≠ 2 → j ≠ 8 → c' j = c j) (hc : Chg X (fun e => e = 75) w w') : LogC w' X L K O G n T c' lat cnt nq qi := by
  have e := fun j h1 h2 h8 => hcc j h1 h2 h8
  obtain ⟨st, c12, c13, ⟨m1, t1, w1⟩, ⟨m2, t2, w2⟩, ⟨m3, t3, w3⟩, nO, ⟨co, bo, ho⟩, nG, ⟨cg, bg⟩⟩ := h
  refine ⟨st.setL hb hc (e 3 (by decide) (by decide) (by decide)) (e 4 (by decide) (by decide) (by decide)) (e 5 (by decide) (by decide) (by decide)) (e 6 (by decide) (by decide) (by decide)) (e 7 (by decide) (by decide) (by decide)), (e 12 (by decide) (by decide) (by decide)).trans c12, (e 13 (by decide) (by decide) (by decide)).trans c13, ⟨m1, t1, ?_⟩, ⟨m2, t2, ?_⟩, ⟨m3, t3, ?_⟩, nO, ⟨co, hc.blk bo (by decide), fun i hi => ?_⟩, nG, ⟨cg, hc.blk bg (by decide)⟩⟩
  · rw [e 9 (by decide) (by decide) (by decide)]; exact w1.chg hc (by decide)
  · rw [e 10 (by decide) (by decide) (by decide)]; exact w2.chg hc (by decide)
  · rw [e 14 (by decide) (by decide) (by decide)]; exact w3.chg hc (by decide)
  · obtain ⟨m, hm, hw⟩ := ho i hi
    exact ⟨m, hm, hw.chg hc (by decide)⟩

/-- Nothing of the log has turned. -/
theorem LogC.chg0 (h : LogC w X L K O G n T c lat cnt nq qi) (hc : Chg X (fun _ => False) w w') : LogC w' X L K O G n T c lat cnt nq qi := by
  obtain ⟨st, c12, c13, ⟨m1, t1, w1⟩, ⟨m2, t2, w2⟩, ⟨m3, t3, w3⟩, nO, ⟨co, bo, ho⟩, nG, ⟨cg, bg⟩⟩ := h
  refine ⟨st.chg hc id id id id, c12, c13, ⟨m1, t1, w1.chg hc id⟩, ⟨m2, t2, w2.chg hc id⟩, ⟨m3, t3, w3.chg hc id⟩, nO, ⟨co, hc.blk bo id, fun i hi => ?_⟩, nG, ⟨cg, hc.blk bg id⟩⟩
  obtain ⟨m, hm, hw⟩ := ho i hi
  exact ⟨m, hm, hw.chg hc id⟩

theorem LogC.mono {T' : Nat} (h : LogC w X L K O G n T c lat cnt nq qi) (hT : T ≤ T') : LogC w X L K O G n T' c lat cnt nq qi := by
  obtain ⟨st, c12, c13, ⟨m1, t1, w1⟩, ⟨m2, t2, w2⟩, ⟨m3, t3, w3⟩, nO, ⟨co, bo, ho⟩, nG, ⟨cg, bg⟩⟩ := h
  refine ⟨st, c12, c13, ⟨m1, by omega, w1⟩, ⟨m2, by omega, w2⟩, ⟨m3, by omega, w3⟩, nO, ⟨co, bo, fun i hi => ?_⟩, nG, ⟨cg, bg⟩⟩
  obtain ⟨m, hm, hw⟩ := ho i hi
  exact ⟨m, by omega, hw⟩

/-- Other foreign blocks, none of the log's. -/
theorem LogC.congr {X' : Nat → Prop} (h : LogC w X L K O G n T c lat cnt nq qi) (hX : ∀ g, g < w.heap.size → X' g → X g) : LogC w X' L K O G n T c lat cnt nq qi := by
  have wf : ∀ {e s v m}, Wf w X e s v m → Wf w X' e s v m := fun ⟨⟨x, hx⟩, hv⟩ => ⟨⟨x, hx⟩, fun g hg hxg => hv g hg (hX g (hx.lt hg) hxg)⟩
  obtain ⟨⟨hb, nX, c3, ⟨hK, ck, Bk, ok, cp, hbK, hi, hd⟩, c5, c6, c7, ⟨x, hq, hqi⟩, qX⟩, c12, c13, ⟨m1, t1, w1⟩, ⟨m2, t2, w2⟩, ⟨m3, t3, w3⟩, nO, ⟨co, bo, ho⟩, nG, ⟨cg, bg⟩⟩ := h
  refine ⟨⟨hb, fun h => nX (hX _ hb.lt h), c3, ⟨fun h => hK (hX _ hbK.lt h), ck, Bk, ok, cp, hbK, fun i hn => ?_, hd⟩, c5, c6, c7, ⟨x, hq, hqi⟩, fun g hg hxg => qX g hg (hX g (hq.lt hg) hxg)⟩, c12, c13, ⟨m1, t1, wf w1⟩, ⟨m2, t2, wf w2⟩, ⟨m3, t3, wf w3⟩, fun h => nO (hX _ bo.lt h), ⟨co, bo, fun i hi => ?_⟩, fun h => nG (hX _ bg.lt h), ⟨cg, bg⟩⟩
  · obtain ⟨r1, r2, r3, r4, sz, cb, r5, r6⟩ := hi i hn
    exact ⟨r1, r2, r3, fun h => r4 (hX _ r5.lt h), sz, cb, r5, r6⟩
  · obtain ⟨m, hm, hw⟩ := ho i hi
    exact ⟨m, hm, wf hw⟩

/-- One of the log's three plain lists is longer by one. -/
theorem LogC.app {f : Nat} {e : TypeId} {m : Nat} {w0 : World} {v' : Value} {nw : Nat → Value} (h : LogC w X L K O G n T c lat cnt nq qi) (hX : ∀ g, X g → g < w.heap.size) (hf : (f = 9 ∧ e = 29) ∨ (f = 10 ∧ e = 3) ∨ (f = 14 ∧ e = 3)) (h0 : Chg X (fun _ => False) w w0)
    (hw : Wf w X e 1 (c f) m) (hm : m ≤ T) (ha : Appended w0 w1 e 1 (c f) v' m nw) :
    LogC (w1.setCell ⟨L, f, none⟩ v') X L K O G n (T + 1) (fun j => if j = f then v' else c j) lat cnt nq qi ∧ Chg X Er w (w1.setCell ⟨L, f, none⟩ v') := by
  have hX0 : ∀ g, X g → g < w0.heap.size := fun g hg => Nat.lt_of_lt_of_le (hX g hg) h0.size
  have hw0 := hw.chg h0 id
  obtain ⟨x, hx⟩ := hw0.1
  have q1 : Chg X (fun t => t = e) w0 w1 := (Chg.refl _ _ w0).app hX0 hx hw0.2 rfl ha
  have he : ∀ t : TypeId, (t = 75 ∨ t = 94 ∨ t = 79 ∨ t = 105 ∨ t = 97 ∨ t = 100 ∨ t = 2) → ¬ t = e := fun t ht hte => by
    subst hte
    rcases hf with ⟨_, rfl⟩ | ⟨_, rfl⟩ | ⟨_, rfl⟩ <;> revert ht <;> decide
  obtain ⟨st, c12, c13, ⟨m1, t1, k1⟩, ⟨m2, t2, k2⟩, ⟨m3, t3, k3⟩, nO, ⟨co, bo, ho⟩, nG, ⟨cg, bg⟩⟩ := h.chg0 h0
  have st1 := st.chg q1 (he 75 (by decide)) (he 94 (by decide)) (he 79 (by decide)) (he 105 (by decide))
  have bL := st1.blk
  have q2 : Chg X (fun t => t = 75) w1 (w1.setCell ⟨L, f, none⟩ v') := (Chg.refl X (fun t => t = 75) w1).setCell bL st1.nX rfl f v'
  have any : ∀ t m v, Wf w0 X t 1 v m → ¬ t = 75 → Wf (w1.setCell ⟨L, f, none⟩ v') X t 1 v m := fun t m' v hv ht => by
    by_cases hte : t = e
    · subst hte
      exact (hv.app hx ha).chg q2 ht
    · exact (hv.chg q1 hte).chg q2 ht
  have own : Wf (w1.setCell ⟨L, f, none⟩ v') X e 1 v' (m + 1) := (hw0.apd ha hX0).chg q2 (fun h => he 75 (by decide) h.symm)
  have f3 : f ≠ 3 ∧ f ≠ 4 ∧ f ≠ 5 ∧ f ≠ 6 ∧ f ≠ 7 ∧ f ≠ 12 ∧ f ≠ 13 := by rcases hf with ⟨rfl, _⟩ | ⟨rfl, _⟩ | ⟨rfl, _⟩ <;> decide
  have e2 : ∀ j, j ≠ f → (if j = f then v' else c j) = c j := fun j hj => by simp [hj]
  have bL2 := bL.set f v'
  refine ⟨⟨st1.setL bL2 q2 (e2 3 f3.1.symm) (e2 4 f3.2.1.symm) (e2 5 f3.2.2.1.symm) (e2 6 f3.2.2.2.1.symm) (e2 7 f3.2.2.2.2.1.symm), (e2 12 f3.2.2.2.2.2.1.symm).trans c12, (e2 13 f3.2.2.2.2.2.2.symm).trans c13, ?_, ?_, ?_, nO, ⟨co, (q1.blk bo (he 97 (by decide))).of_block (q2.keep O _ _ _ (q1.blk bo (he 97 (by decide))) (by decide)), fun i hi => ?_⟩, nG, ⟨cg, q2.blk (q1.blk bg (he 2 (by decide))) (by decide)⟩⟩, (h0.mono fun t ht => ht.elim).trans ((q1.mono fun t ht => ?_).trans (q2.mono fun t ht => .inl ht))⟩
  · by_cases e9 : f = 9
    · subst e9
      have : e = 29 := by rcases hf with ⟨_, rfl⟩ | ⟨h, _⟩ | ⟨h, _⟩ <;> first | rfl | cases h
      subst this
      exact ⟨m + 1, by omega, by simpa using own⟩
    · exact ⟨m1, by omega, by rw [e2 9 (fun h => e9 h.symm)]; exact any 29 m1 _ k1 (by decide)⟩
  · by_cases e9 : f = 10
    · subst e9
      have : e = 3 := by rcases hf with ⟨h, _⟩ | ⟨_, rfl⟩ | ⟨h, _⟩ <;> first | rfl | cases h
      subst this
      exact ⟨m + 1, by omega, by simpa using own⟩
    · exact ⟨m2, by omega, by rw [e2 10 (fun h => e9 h.symm)]; exact any 3 m2 _ k2 (by decide)⟩
  · by_cases e9 : f = 14
    · subst e9
      have : e = 3 := by rcases hf with ⟨h, _⟩ | ⟨h, _⟩ | ⟨_, rfl⟩ <;> first | rfl | cases h
      subst this
      exact ⟨m + 1, by omega, by simpa using own⟩
    · exact ⟨m3, by omega, by rw [e2 14 (fun h => e9 h.symm)]; exact any 3 m3 _ k3 (by decide)⟩
  · obtain ⟨m', hm', hw'⟩ := ho i hi
    exact ⟨m', by omega, (hw'.chg q1 (he 100 (by decide))).chg q2 (by decide)⟩
  · subst ht
    rcases hf with ⟨_, rfl⟩ | ⟨_, rfl⟩ | ⟨_, rfl⟩ <;> simp [Er]

/-- One item's row of references is longer by one. -/
theorem LogC.row {i m : Nat} {co : Nat → Value} {w0 : World} {v' : Value} {nw : Nat → Value} (h : LogC w X L K O G n T c lat cnt nq qi) (hX : ∀ g, X g → g < w.heap.size) (h0 : Chg X (fun _ => False) w w0) (hbo : Blk w O 97 (n + 1) co)
    (hw : Wf w X 100 4 (co i) m) (hm : m ≤ T) (ha : Appended w0 w1 100 4 (co i) v' m nw) :
    LogC (w1.setCell ⟨O, i, none⟩ v') X L K O G n (T + 1) c lat cnt nq qi ∧ Chg X Er w (w1.setCell ⟨O, i, none⟩ v') := by
  have hX0 : ∀ g, X g → g < w0.heap.size := fun g hg => Nat.lt_of_lt_of_le (hX g hg) h0.size
  have hw0 := hw.chg h0 id
  obtain ⟨x, hx⟩ := hw0.1
  have q1 : Chg X (fun t => t = 100) w0 w1 := (Chg.refl _ _ w0).app hX0 hx hw0.2 rfl ha
  have ho1 : ∀ j, j ≤ n → ∃ m, m ≤ T ∧ Wf w0 X 100 4 (co j) m := fun j hj => by
    obtain ⟨co2, bo2, ho2⟩ := h.on
    obtain ⟨m2, hm2, hw2⟩ := ho2 j hj
    have e := (bo2.size_eq hbo).2.2 j (by omega)
    exact ⟨m2, hm2, (e ▸ hw2).chg h0 id⟩
  obtain ⟨st, c12, c13, ⟨m1, t1, k1⟩, ⟨m2, t2, k2⟩, ⟨m3, t3, k3⟩, nO, _, nG, ⟨cg, bg⟩⟩ := h.chg0 h0
  have bo1 : Blk w1 O 97 (n + 1) co := q1.blk (h0.blk hbo id) (by decide)
  have q2 : Chg X (fun t => t = 97) w1 (w1.setCell ⟨O, i, none⟩ v') := (Chg.refl X (fun t => t = 97) w1).setCell bo1 nO rfl i v'
  have st1 := (st.chg q1 (by decide) (by decide) (by decide) (by decide)).chg q2 (by decide) (by decide) (by decide) (by decide)
  refine ⟨⟨st1, c12, c13, ⟨m1, by omega, (k1.chg q1 (by decide)).chg q2 (by decide)⟩, ⟨m2, by omega, (k2.chg q1 (by decide)).chg q2 (by decide)⟩, ⟨m3, by omega, (k3.chg q1 (by decide)).chg q2 (by decide)⟩, nO, ⟨_, bo1.set i v', fun j hj => ?_⟩, nG, ⟨cg, q2.blk (q1.blk bg (by decide)) (by decide)⟩⟩, (h0.mono fun t ht => ht.elim).trans ((q1.mono fun t ht => ?_).trans (q2.mono fun t ht => ?_))⟩
  · by_cases e : j = i
    · simp only [e, if_true]
      exact ⟨m + 1, by omega, (hw0.apd ha hX0).chg q2 (by decide)⟩
    · simp only [e, if_false]
      obtain ⟨m', hm', hw'⟩ := ho1 j hj
      exact ⟨m', by omega, (hw'.app hx ha).chg q2 (by decide)⟩
  · subst ht; simp [Er]
  · subst ht; simp [Er]

/-- One item's first version of the cycle is laid down. -/
theorem LogC.beg {i : Nat} {u : Int} (h : LogC w X L K O G n T c lat cnt nq qi) : LogC (w.setCell ⟨G, i, none⟩ (.int .i64 u)) X L K O G n T c lat cnt nq qi ∧ Chg X Er w (w.setCell ⟨G, i, none⟩ (.int .i64 u)) := by
  obtain ⟨st, c12, c13, ⟨m1, t1, k1⟩, ⟨m2, t2, k2⟩, ⟨m3, t3, k3⟩, nO, ⟨co, bo, ho⟩, nG, ⟨cg, bg⟩⟩ := h
  have q2 : Chg X (fun t => t = 2) w (w.setCell ⟨G, i, none⟩ (.int .i64 u)) := (Chg.refl X (fun t => t = 2) w).setCell bg nG rfl i _
  refine ⟨⟨st.chg q2 (by decide) (by decide) (by decide) (by decide), c12, c13, ⟨m1, t1, k1.chg q2 (by decide)⟩, ⟨m2, t2, k2.chg q2 (by decide)⟩, ⟨m3, t3, k3.chg q2 (by decide)⟩, nO, ⟨co, q2.blk bo (by decide), fun j hj => ?_⟩, nG, ⟨fun j => if j = i then u else cg j, (bg.set i _).congr fun j _ => ?_⟩⟩, q2.mono fun t ht => ?_⟩
  · obtain ⟨m', hm', hw'⟩ := ho j hj
    exact ⟨m', hm', hw'.chg q2 (by decide)⟩
  · by_cases e : j = i <;> simp [e]
  · subst ht; simp [Er]

end

#print axioms LogC.row
end Go.Proofs.Ybulkbzcc
