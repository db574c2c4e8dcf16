import Derived.Test.YbulkbzccPut
namespace Go.Proofs.Ybulkbzcc
open Go.RowKit Go.Maps
open Go.WideShapes (add_plain)

theorem info82 : (Yba.prog.info? 82).map (fun i => (i.zero, i.size, i.bytes)) = some (some (.pointer none), 1, 8) := by kernel_rfl

theorem SliceIs.shape {w : World} {e : TypeId} {s : Nat} {v : Value} {n : Nat} {x : Nat → Value} (h : SliceIs w e s v n x) : ∃ a cap, v = .slice a n cap := by
  rcases h with ⟨rfl, rfl⟩ | ⟨g, o, cap, sz, c, rfl, _⟩
  · exact ⟨none, 0, rfl⟩
  · exact ⟨_, cap, rfl⟩

theorem Appended.shape {w w' : World} {e : TypeId} {s : Nat} {v v' : Value} {n : Nat} {nw : Nat → Value} (h : Appended w w' e s v v' n nw) : ∃ g o cap, v' = .slice (some ⟨g, o, none⟩) (n + 1) cap ∧ (v.ownBlock = some g ∨ g = w.heap.size) := by
  rcases h with ⟨g, o, cap, rfl, _, rfl, _⟩ | ⟨cap, c', rfl, _⟩
  · exact ⟨g, o, cap, rfl, .inl rfl⟩
  · exact ⟨_, 0, cap, rfl, .inr rfl⟩

theorem one_new (w : World) (a : Value) (t : TypeId) : ∀ j, j < 1 → (w.alloc (.cells #[a] t)).cell? ((⟨w.heap.size, 0, none⟩ : Addr).add j) = some ((fun _ => a) j) := by
  intro j hj
  have : j = 0 := by omega
  subst this
  simp [add_plain]

/-- A block of another type stays as it is. -/
theorem Appended.other {w w' : World} {e : TypeId} {s : Nat} {v v' : Value} {n : Nat} {nw x : Nat → Value} (h : Appended w w' e s v v' n nw) (hs : SliceIs w e s v n x) {g : Nat} {e' : TypeId} {sz : Nat} {c : Nat → Value} (hb : Blk w g e' sz c) (hne : e' ≠ e) : Blk w' g e' sz c := by
  refine hb.of_block (h.grown.block g hb.lt fun hg => ?_)
  obtain ⟨sz', c', hb'⟩ := hs.typed hg.symm
  exact absurd rfl (hb.ne hb' hne)

theorem one_newS (w : World) (a : Value) (t : TypeId) (p q : Addr) (u v : Value) : ∀ j, j < 1 → (((w.setCell p u).setCell q v).alloc (.cells #[a] t)).cell? ((⟨w.heap.size, 0, none⟩ : Addr).add j) = some ((fun _ => a) j) := by
  have := one_new ((w.setCell p u).setCell q v) a t
  simpa using this

/-- What 'age' leaves. -/
def Aged (w w' : World) (C E no : Nat) (since : Int) (c ce : Nat → Value) : Prop :=
  ∃ v' ys, Blk w' C 87 16 (fun j => if j = 12 then v' else c j) ∧ SliceIs w' 82 1 v' (no + 1) ys ∧ (∀ g, v'.ownBlock = some g → (c 12).ownBlock = some g ∨ w.heap.size ≤ g) ∧
    (∃ ce', Blk w' E 84 9 ce' ∧ ce' 4 = .bool true ∧ ce' 5 = .int .i64 since ∧ ∀ j, j ≠ 4 → j ≠ 5 → j ≠ 6 → ce' j = ce j) ∧ w'.os = w.os ∧ w'.tape = w.tape ∧ w'.output = w.output ∧ w.heap.size ≤ w'.heap.size ∧
    ∀ k, k < w.heap.size → k ≠ C → k ≠ E → some k ≠ (c 12).ownBlock → w'.heap[k]? = w.heap[k]?

set_option maxRecDepth 100000 in
set_option maxHeartbeats 1000000 in
theorem age_any (C E no : Nat) (since : Int) (c ce xs : Nat → Value) (w : World) (hC : Blk w C 87 16 c) (hE : Blk w E 84 9 ce) (e4 : ce 4 = .bool false) (hold : SliceIs w 82 1 (c 12) no xs) (hno : no ≤ 1000) :
    Calls Yba.prog 30 #[.pointer (some ⟨C, 0, none⟩), .pointer (some ⟨E, 0, none⟩), .int .i64 since] w fun e w' => e = .returned (.tuple #[]) ∧ Aged w w' C E no since c ce := by
  obtain ⟨a, cap, hv⟩ := hold.shape
  have k4 := hE.cell (i := 4) (by omega)
  have k5 := hE.cell (i := 5) (by omega)
  have k6 := hE.cell (i := 6) (by omega)
  have g12 := hC.cell (i := 12) (by omega)
  rw [e4] at k4
  rw [hv] at g12
  have z := hE.frozen
  have zC := hC.frozen
  have lE := hE.lt
  have lC := hC.lt
  have hCE : C ≠ E := hC.ne hE (by decide)
  have hEC : E ≠ C := fun h => hCE h.symm
  have hl : SliceIs ((w.setCell ⟨E, 4, none⟩ (.bool true)).setCell ⟨E, 6, none⟩ (.int .i64 (no : Int))) 82 1 (.slice a no cap) no xs := by
    rw [← hv]
    refine hold.of_block fun g hg => ?_
    obtain ⟨sz, cg, hbg⟩ := hold.typed hg
    have hgE : g ≠ E := hbg.ne hE (by decide)
    rw [heap_setCell_other _ _ _ _ hgE, heap_setCell_other _ _ _ _ hgE]
  have HV : Hid (c 12 = .slice a no cap) := hv
  clear hv
  have hCW : ∀ ob, Blk (((w.setCell ⟨E, 4, none⟩ (.bool true)).setCell ⟨E, 6, none⟩ (.int .i64 (no : Int))).alloc ob) C 87 16 c := fun ob => ((hC.set_other hCE _).set_other hCE _).alloc ob
  have hEW : ∀ ob, Blk (((w.setCell ⟨E, 4, none⟩ (.bool true)).setCell ⟨E, 6, none⟩ (.int .i64 (no : Int))).alloc ob) E 84 9 (fun j => if j = 6 then .int .i64 (no : Int) else if j = 4 then .bool true else ce j) := fun ob => ((hE.set 4 _).set 6 _).alloc ob
  go_enter Yba.func30, Yba.ntmps30
  go_wp2_with (first
    | (at_builtin; refine wpList_append1 _ rfl _ _ 85 rfl 82 Yba.underlying85 info82 rfl (.slice a no cap) no xs rfl (hl.alloc _) ⟨w.heap.size, 0, none⟩ _ (fun _ => .pointer (some ⟨E, 0, none⟩)) rfl (one_newS _ _ _ _ _ _ _) (fun _ _ => rfl) (by omega) (by unfold maxLen; omega) ?_; intro v2 w2 hap; obtain ⟨g', o', cap', hv2, hg2⟩ := hap.shape; rw [hv2]; have hC2 := hap.other (hl.alloc _) (hCW _) (by decide); have hE2 := hap.other (hl.alloc _) (hEW _) (by decide); have q12 := hC2.cell (i := 12) (by omega); have q5 := hE2.cell (i := 5) (by omega); have y12 := hC2.frozen 12; have y5 := hE2.frozen 5; have s2 := (hl.alloc _).ap hap; rw [hv2] at s2; have hgr := hap.grown))
  go_end0
  refine ⟨rfl, .slice (some ⟨g', o', none⟩) (no + 1) cap', fun j => if j < no * 1 then xs j else .pointer (some ⟨E, 0, none⟩), (hC2.set 12 _).set_other hCE _, ?_, ?_, ⟨_, (hE2.set_other hEC _).set 5 _, by simp, by simp, fun j h1 h2 h3 => by simp [h1, h2, h3]⟩, hgr.os, hgr.tape, hgr.output, ?_, ?_⟩
  · refine s2.of_block fun g hg => ?_
    obtain ⟨sz, cg, hbg⟩ := s2.typed hg
    rw [heap_setCell_other _ _ _ _ (hbg.ne hE2 (by decide)), heap_setCell_other _ _ _ _ (hbg.ne hC2 (by decide))]
  · intro g hg
    simp [Value.ownBlock] at hg
    subst hg
    rcases hg2 with h | h
    · exact .inl (by rw [HV.out]; exact h)
    · refine .inr ?_
      simp at h
      omega
  · have := hgr.size
    simp at this
    simp
    omega
  · intro k hk h1 h2 h3
    rw [heap_setCell_other _ _ _ _ h2, heap_setCell_other _ _ _ _ h1, hgr.block k (by simp; omega) (by rw [← HV.out]; exact h3), Below.heap_alloc _ _ _ (by simpa using hk), heap_setCell_other _ _ _ _ h2, heap_setCell_other _ _ _ _ h2]

#print axioms age_any
end Go.Proofs.Ybulkbzcc
