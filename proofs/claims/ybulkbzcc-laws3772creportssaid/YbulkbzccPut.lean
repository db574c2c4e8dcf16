import Derived.Test.YbulkbzccCache
namespace Go.Proofs.Ybulkbzcc
open Go.RowKit Go.Maps

/-- A new entry's cells. -/
def newE (j : Nat) : Value := (#[.int .i64 0, .int .i64 0, .string ⟨#[]⟩, .int .i64 0, .bool false, .int .i64 0, .int .i64 0, .pointer none, .pointer none] : Array Value)[j]?.getD undef

theorem mapTurned_block {w w' : World} {b : Nat} (h : w.mapTurned w' b) {c : Nat} (hc : c ≠ b) : w'.heap[c]? = w.heap[c]? := by
  obtain ⟨es, clock, es', clock', hb, rfl⟩ := h
  exact ChangeMaps.heap_setBlock_other hb _ hc

theorem mapTurned_cell {w w' : World} {b : Nat} (h : w.mapTurned w' b) (c o : Nat) (hc : c ≠ b) : w'.cell? ⟨c, o, none⟩ = w.cell? ⟨c, o, none⟩ := World.cell?_of_block (mapTurned_block h hc)

theorem mapTurned_size {w w' : World} {b : Nat} (h : w.mapTurned w' b) : w'.heap.size = w.heap.size := by
  obtain ⟨es, clock, es', clock', hb, rfl⟩ := h
  simp [ChangeMaps.setBlock]

theorem MapI.ne_blk {w : World} {P : Program} {k : TypeId} {q : IntKind} {b n : Nat} {f : Int → Option Value} (h : MapI w P k q b n f) {g : Nat} {e : TypeId} {sz : Nat} {c : Nat → Value} (hb : Blk w g e sz c) : g ≠ b := by
  rintro rfl
  obtain ⟨D, ⟨es, clock, h1, _⟩, _⟩ := h
  obtain ⟨cur, h2, _⟩ := hb
  rw [h1] at h2
  cases h2

theorem EntryOK.of_block {w w' : World} {E : Nat} {x : Int} {o : Bool} {s : Int} (h : EntryOK w E x o s) (hb : w'.heap[E]? = w.heap[E]?) : EntryOK w' E x o s := by
  obtain ⟨ce, h1, r⟩ := h
  exact ⟨ce, h1.of_block hb, r⟩

theorem put_close {w4 w5 : World} {B C M n k E lb : Nat} {f : Int → Option Value} {o : Int → Bool} {s : Int → Int} {x : Int} {c ce4 : Nat → Value} {no : Nat} {xs : Nat → Value} (hC4 : Blk w4 C 87 16 c) (c0 : c 0 = .int .i64 4) (c1 : c 1 = .int .i64 0) (c2 : c 2 = .map (some M)) (c13 : c 13 = .int .i64 0)
    (hM4 : MapI w4 Yba.prog 3 .i64 M (n + 1) (fun y => if y = x then some (.pointer (some ⟨E, 0, none⟩)) else f y)) (hE4 : Blk w4 E 84 9 ce4) (e3 : ce4 3 = .int .i64 x) (e4 : ce4 4 = .bool false) (e5 : ce4 5 = .int .i64 0) (hno : no ≤ k) (hold4 : SliceIs w4 82 1 (c 12) no xs) (hog : ∀ g, (c 12).ownBlock = some g → B ≤ g) (hBC : B ≤ C) (hBM : B ≤ M) (hBE : B ≤ E)
    (hent4 : ∀ y v, f y = some v → ∃ E', v = .pointer (some ⟨E', 0, none⟩) ∧ B ≤ E' ∧ E' ≠ E ∧ EntryOK w4 E' y (o y) (s y)) (hU : Used w4 w5 C E lb c ce4) (hlb : lb = C ∨ ∃ cl, Blk w4 lb 84 9 cl) :
    CacheOK w5 B C M (n + 1) k 0 (fun y => if y = x then some (.pointer (some ⟨E, 0, none⟩)) else f y) (fun y => if y = x then false else o y) (fun y => if y = x then 0 else s y) := by
  obtain ⟨⟨c', hC5, c11', hc'⟩, ⟨ce5, hE5, hce⟩, hl5, _, _, _, _, hk⟩ := hU
  have hMC : C ≠ M := hM4.ne_blk hC4
  have hME : E ≠ M := hM4.ne_blk hE4
  have hMl : lb ≠ M := by
    rcases hlb with rfl | ⟨cl, h⟩
    · exact hMC
    · exact hM4.ne_blk h
  refine ⟨⟨hBC, hBM⟩, ⟨c', hC5, by rw [hc' 0 (by omega) (by omega)]; exact c0, by rw [hc' 1 (by omega) (by omega)]; exact c1, by rw [hc' 2 (by omega) (by omega)]; exact c2, by rw [hc' 13 (by omega) (by omega)]; exact c13, ⟨E, 0, c11', .inr ⟨rfl, hBE, ce5, hE5⟩⟩, no, xs, hno, ?_, by rw [hc' 12 (by omega) (by omega)]; exact hog⟩, hM4.of_block (hk M hMC.symm hME.symm hMl.symm), fun y v hy => ?_⟩
  · rw [hc' 12 (by omega) (by omega)]
    refine hold4.of_block fun g hg => ?_
    obtain ⟨sz, cg, hbg⟩ := hold4.typed hg
    refine hk g (hbg.ne hC4 (by decide)) (hbg.ne hE4 (by decide)) ?_
    rcases hlb with rfl | ⟨cl, h⟩
    · exact hbg.ne hC4 (by decide)
    · exact hbg.ne h (by decide)
  · by_cases e : y = x
    · subst e
      simp at hy
      subst hy
      exact ⟨E, rfl, hBE, ce5, hE5, by rw [hce 3 (by omega) (by omega)]; exact e3, by rw [hce 4 (by omega) (by omega)]; simpa using e4, by rw [hce 5 (by omega) (by omega)]; simpa using e5⟩
    · simp only [e, if_false] at hy ⊢
      obtain ⟨E', rfl, hBE', hne, hen⟩ := hent4 y v hy
      refine ⟨E', rfl, hBE', ?_⟩
      obtain ⟨cy, hy1, y3, y4, y5⟩ := hen
      by_cases el : E' = lb
      · subst el
        obtain ⟨cl', h1, h2⟩ := hl5 cy hy1
        exact ⟨cl', h1, by rw [h2 3 (by omega)]; exact y3, by rw [h2 4 (by omega)]; exact y4, by rw [h2 5 (by omega)]; exact y5⟩
      · exact EntryOK.of_block ⟨cy, hy1, y3, y4, y5⟩ (hk E' (hy1.ne hC4 (by decide)) hne el)

set_option maxRecDepth 100000 in
set_option maxHeartbeats 1000000 in
theorem put_any (B C M n k : Nat) (f : Int → Option Value) (o : Int → Bool) (s : Int → Int) (x ts ver : Int) (d : ByteArray) (w : World) (h : CacheOK w B C M n k 0 f o s) (hn : n < 4) (hx : (Lit.int .i64 x).wf = true) (hf : f x = none) :
    Calls Yba.prog 13 #[.pointer (some ⟨C, 0, none⟩), .int .i64 x, .int .i64 0, .agg #[.int .i64 ts, .int .i64 ver, .string d], .pointer none] w fun e w' => e = .returned (.tuple #[]) ∧
      ∃ E, CacheOK w' B C M (n + 1) k 0 (fun y => if y = x then some (.pointer (some ⟨E, 0, none⟩)) else f y) (fun y => if y = x then false else o y) (fun y => if y = x then 0 else s y) ∧ Below B w w' := by
  obtain ⟨⟨hBC, hBM⟩, ⟨c, hC, c0, c1, c2, c13, ⟨lb, lo, c11, hlb⟩, no, xs, hno, hold, hog⟩, hmap, hent⟩ := h
  have g0 := hC.cell (i := 0) (by omega)
  have g1 := hC.cell (i := 1) (by omega)
  have g2 := hC.cell (i := 2) (by omega)
  rw [c0] at g0
  rw [c1] at g1
  rw [c2] at g2
  have HN : Hid (f x = none) := hf
  clear hf
  have hCl := hC.lt
  have hMl := hmap.lt
  go_enter Yba.func13, Yba.ntmps13
  go_wp2_with (first
    | (at_lookup; refine wpList_lookup_mapI _ rfl _ _ 81 rfl 3 82 .i64 Yba.underlying3 Yba.underlying81 _ (zero82 _) M n f rfl (hmap.alloc _) x rfl hx (.pointer none) (by rw [HN.out]; rfl) ?_))
  refine (room_any C M n f _ ((hC.alloc _).cell (i := 0) (by omega) |>.trans (by rw [c0])) ((hC.alloc _).cell (i := 2) (by omega) |>.trans (by rw [c2])) (hmap.alloc _) hn).mono ?_
  rintro e w2 ⟨rfl, hb2, hz2, hE2⟩
  simp only [World.size_alloc] at hb2 hz2 hE2
  have hC2 : Blk w2 C 87 16 c := (hC.alloc _).below hb2 (by omega)
  have hM2 : MapI w2 Yba.prog 3 .i64 M n f := (hmap.alloc _).of_block (hb2.block M (by omega))
  have hB2 : ∀ i, i < 3 → w2.cell? ⟨w.heap.size, i, none⟩ = (#[.int .i64 ts, .int .i64 ver, .string d] : Array Value)[i]? := fun i _ => by
    rw [hb2.cell (p := ⟨w.heap.size, i, none⟩) (by simp)]
    exact World.cell?_alloc_at _ _ _ _ rfl
  have hEb : Blk w2 (w.heap.size + 1) 84 9 newE := Blk.of_row hE2
  have q2 : w2.cell? ⟨C, 2, none⟩ = some (.map (some M)) := (hC2.cell (i := 2) (by omega)).trans (by rw [c2])
  have q3 : w2.cell? ⟨w.heap.size + 1, 3, none⟩ = some (.int .i64 0) := hEb.cell (i := 3) (by omega)
  have z3 := hEb.frozen 3
  have b0 : w2.cell? ⟨w.heap.size, 0, none⟩ = some (.int .i64 ts) := hB2 0 (by omega)
  have b1 : w2.cell? ⟨w.heap.size, 1, none⟩ = some (.int .i64 ver) := hB2 1 (by omega)
  have b2 : w2.cell? ⟨w.heap.size, 2, none⟩ = some (.string d) := hB2 2 (by omega)
  have nC : C ≠ w.heap.size + 1 := by omega
  have nM : M ≠ w.heap.size + 1 := by omega
  clear hB2
  go_wp2_with (first
    | (at_mapUpdate; refine wpList_update_mapI _ rfl _ _ _ 81 rfl 3 82 .i64 Yba.underlying3 Yba.underlying81 M n f rfl (hM2.setCell nM _) (by unfold maxLen; omega) x rfl hx _ rfl ?_; intro w3 hM3 hT3; have b03 := (mapTurned_cell hT3 w.heap.size 0 (by omega)).trans ((World.cell?_of_block (a := ⟨w.heap.size, 0, none⟩) (heap_setCell_other w2 ⟨w.heap.size + 1, 3, none⟩ w.heap.size _ (by simp))).trans b0); have b13 := (mapTurned_cell hT3 w.heap.size 1 (by omega)).trans ((World.cell?_of_block (a := ⟨w.heap.size, 1, none⟩) (heap_setCell_other w2 ⟨w.heap.size + 1, 3, none⟩ w.heap.size _ (by simp))).trans b1); have b23 := (mapTurned_cell hT3 w.heap.size 2 (by omega)).trans ((World.cell?_of_block (a := ⟨w.heap.size, 2, none⟩) (heap_setCell_other w2 ⟨w.heap.size + 1, 3, none⟩ w.heap.size _ (by simp))).trans b2)))
  have nCM : C ≠ M := hmap.ne_blk hC
  have hC3 : Blk w3 C 87 16 c := (hC2.set_other nC _).of_block (mapTurned_block hT3 nCM)
  have hE3 : Blk w3 (w.heap.size + 1) 84 9 (fun j => if j = 3 then .int .i64 x else newE j) := (hEb.set 3 _).of_block (mapTurned_block hT3 (by omega))
  refine (fill_any C (w.heap.size + 1) x ts ver d _ w3 ((hC3.cell (i := 13) (by omega)).trans (by rw [c13])) hE3 (by simp) (by simp [newE]) nC).mono ?_
  rintro e w4 ⟨rfl, ⟨ce4, hE4, he4⟩, hg4⟩
  have hsz3 : w3.heap.size = w.heap.size + 2 := by rw [mapTurned_size hT3]; simp [hz2]
  have hC4 : Blk w4 C 87 16 c := hC3.of_block (hg4.block C (by omega) (by simpa using nC))
  have hM4 : MapI w4 Yba.prog 3 .i64 M (n + 1) (fun y => if y = x then some (.pointer (some ⟨w.heap.size + 1, 0, none⟩)) else f y) := hM3.of_block (hg4.block M (by omega) (by simpa using nM))
  have keep : ∀ k, k < w.heap.size → k ≠ M → w4.heap[k]? = w.heap[k]? := fun k hk hkM => by
    rw [hg4.block k (by omega) (by simp; omega), mapTurned_block hT3 hkM, heap_setCell_other _ _ _ _ (by dsimp only; omega), hb2.block k (by omega)]
    exact Below.heap_alloc _ _ _ hk
  have hold4 : SliceIs w4 82 1 (c 12) no xs := hold.of_block fun g hg => keep g (hold.lt hg) (by obtain ⟨sz, cg, hbg⟩ := hold.typed hg; exact hmap.ne_blk hbg)
  have hent4 : ∀ y v, f y = some v → ∃ E', v = .pointer (some ⟨E', 0, none⟩) ∧ B ≤ E' ∧ E' ≠ w.heap.size + 1 ∧ EntryOK w4 E' y (o y) (s y) := fun y v hy => by
    obtain ⟨E', rfl, hBE, hen⟩ := hent y v hy
    obtain ⟨cy, hb, r⟩ := hen
    have := hb.lt
    exact ⟨E', rfl, hBE, by omega, EntryOK.of_block ⟨cy, hb, r⟩ (keep E' hb.lt (hmap.ne_blk hb))⟩
  have hbel : ∀ w5, (∀ k, k < B → w5.heap[k]? = w4.heap[k]?) → w5.os = w4.os → w5.tape = w4.tape → w5.output = w4.output → w4.heap.size ≤ w5.heap.size → Below B w w5 := fun w5 h3 h4 h5 h6 h7 =>
    ⟨(h4.trans hg4.os).trans (hT3.grown.os.trans (hb2.os.trans rfl)), (h5.trans hg4.tape).trans (hT3.grown.tape.trans (hb2.tape.trans rfl)), (h6.trans hg4.output).trans (hT3.grown.output.trans (hb2.output.trans rfl)), by have := hg4.size; omega, fun k hk => (h3 k hk).trans (keep k (by omega) (by omega))⟩
  clear b03 b13 b23 b0 b1 b2 q2 q3 z3
  have H3 : ce4 3 = .int .i64 x := by rw [he4 3 (by omega)]; simp
  have H4 : ce4 4 = .bool false := by rw [he4 4 (by omega)]; simp [newE]
  have H5 : ce4 5 = .int .i64 0 := by rw [he4 5 (by omega)]; simp [newE]
  have H8 : ce4 8 = .pointer none := by rw [he4 8 (by omega)]; simp [newE]
  go_wp2_with fail
  rcases hlb with ⟨h1, h2⟩ | ⟨h2, hBl, cl, hcl⟩
  · rw [h1, h2] at c11
    refine (use_self C (w.heap.size + 1) c ce4 w4 hC4 c11 hE4 H8).mono ?_
    rintro e w5 ⟨rfl, hU⟩
    go_wp2
    go_end0
    have hU' := hU
    obtain ⟨_, _, _, u1, u2, u3, u4, u5⟩ := hU'
    exact ⟨rfl, _, put_close hC4 c0 c1 c2 c13 hM4 hE4 H3 H4 H5 hno hold4 hog hBC hBM (by omega) hent4 hU (.inl rfl), hbel w5 (fun k hk => u5 k (by omega) (by omega) (by omega)) u1 u2 u3 (by omega)⟩
  · rw [h2] at c11
    have hcl4 : Blk w4 lb 84 9 cl := hcl.of_block (keep lb hcl.lt (hmap.ne_blk hcl))
    have hll := hcl.lt
    refine (use_other C (w.heap.size + 1) lb c ce4 cl w4 hC4 c11 hE4 H8 hcl4 (by omega)).mono ?_
    rintro e w5 ⟨rfl, hU⟩
    go_wp2
    go_end0
    have hU' := hU
    obtain ⟨_, _, _, u1, u2, u3, u4, u5⟩ := hU'
    exact ⟨rfl, _, put_close hC4 c0 c1 c2 c13 hM4 hE4 H3 H4 H5 hno hold4 hog hBC hBM (by omega) hent4 hU (.inr ⟨cl, hcl4⟩), hbel w5 (fun k hk => u5 k (by omega) (by omega) (by omega)) u1 u2 u3 (by omega)⟩
end Go.Proofs.Ybulkbzcc
