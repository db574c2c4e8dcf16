import Derived.Test.YbulkbzccRows
import Derived.Test.YbulkbzccMapI
import Derived.Test.YbulkbzccApp2
import Derived.RegionTactic
import Derived.BigQuiet
import Derived.Deep.QuietTactic
namespace Go.Proofs.Ybulkbzcc
open Go.RowKit Go.Maps

theorem zero82 (w : World) : (zeroValue 82).run Yba.prog w = .ok (.pointer none) w := by kernel_rfl

/-- An entry of the cache: its item, its mark, its cycle. -/
def EntryOK (w : World) (E : Nat) (x : Int) (o : Bool) (s : Int) : Prop := ∃ ce, Blk w E 84 9 ce ∧ ce 3 = .int .i64 x ∧ ce 4 = .bool o ∧ ce 5 = .int .i64 s

theorem stale_none (C : Nat) (x : Int) (M n : Nat) (f : Int → Option Value) (w : World) (hc : w.cell? ⟨C, 2, none⟩ = some (.map (some M))) (hm : MapI w Yba.prog 3 .i64 M n f) (hw : (Lit.int .i64 x).wf = true) (hf : f x = none) :
    Calls Yba.prog 14 #[.pointer (some ⟨C, 0, none⟩), .int .i64 x] w fun e w' => e = .returned (.tuple #[.int .i64 0, .bool false]) ∧ w' = w := by
  have H : Hid (f x = none) := hf
  clear hf
  go_enter Yba.func14, Yba.ntmps14
  go_wp2_with (first | (at_lookup; refine wpList_lookup_mapI _ rfl _ _ 81 rfl 3 82 .i64 Yba.underlying3 Yba.underlying81 _ (zero82 _) M n f rfl hm x rfl hw (.pointer none) (by rw [H.out]; rfl) ?_))
  go_ret2
  exact ⟨rfl, rfl⟩

theorem stale_some (C E : Nat) (x : Int) (old : Bool) (s : Int) (M n : Nat) (f : Int → Option Value) (w : World) (hc : w.cell? ⟨C, 2, none⟩ = some (.map (some M))) (hm : MapI w Yba.prog 3 .i64 M n f) (hw : (Lit.int .i64 x).wf = true) (hf : f x = some (.pointer (some ⟨E, 0, none⟩)))
    (h4 : w.cell? ⟨E, 4, none⟩ = some (.bool old)) (h5 : w.cell? ⟨E, 5, none⟩ = some (.int .i64 s)) :
    Calls Yba.prog 14 #[.pointer (some ⟨C, 0, none⟩), .int .i64 x] w fun e w' => e = .returned (.tuple #[.int .i64 (if old then s else 0), .bool old]) ∧ w' = w := by
  have H : Hid (f x = some (.pointer (some ⟨E, 0, none⟩))) := hf
  clear hf
  cases old
  all_goals
    go_enter Yba.func14, Yba.ntmps14
    go_wp2_with (first | (at_lookup; refine wpList_lookup_mapI _ rfl _ _ 81 rfl 3 82 .i64 Yba.underlying3 Yba.underlying81 _ (zero82 _) M n f rfl hm x rfl hw (.pointer (some ⟨E, 0, none⟩)) (by rw [H.out]; rfl) ?_))
    go_ret2
    exact ⟨rfl, rfl⟩

set_option maxRecDepth 100000 in
theorem newCache_any (w : World) :
    Calls Yba.prog 12 #[.int .i64 4, .int .i64 0, .int .i64 4] w fun e w' => e = .returned (.pointer (some ⟨w.heap.size + 1, 0, none⟩)) ∧ Below w.heap.size w w' ∧ MapI w' Yba.prog 3 .i64 w.heap.size 0 (fun _ => none) ∧
      w'.heap[w.heap.size + 1]? = some (.cells #[.int .i64 4, .int .i64 0, .map (some w.heap.size), .int .i64 0, .int .i64 0, .string ⟨#[]⟩, .int .i64 0, .bool false, .int .i64 0, .int .i64 0, .pointer (some ⟨w.heap.size + 1, 3, none⟩), .pointer (some ⟨w.heap.size + 1, 3, none⟩), .slice none 0 0, .int .i64 0, .map none, .bool false] 87 (0, 0)) ∧ w'.heap.size = w.heap.size + 2 := by
  have hmm : ∀ (v : Int) (wx : World), (Instr.makeMap 81 (some (.int .i64 v))).run Yba.prog wx = .ok (.map (some wx.heap.size)) (wx.alloc (.map #[] 0)) := fun v wx => by kernel_rfl
  go_enter Yba.func12, Yba.ntmps12
  go_wp2
  go_region
  go_wp2
  go_ret
  refine ⟨rfl, ?_, ?_, ?_, ?_⟩
  · exact (((Below.refl _ _).alloc (Nat.le_refl _) _).alloc (by simp) _).drew
  · exact ((MapI.made w _ _ _).alloc _).of_block rfl
  · exact blockdrew (blocknew _ _ (by simp))
  · simp

/-- THE CACHE AT BLOCK C, ITS MAP AT BLOCK M: what it holds by item: the entries (f), their marks (o) and cycles (s). -/
structure CacheOK (w : World) (B C M n k : Nat) (cyc : Int) (f : Int → Option Value) (o : Int → Bool) (s : Int → Int) : Prop where
  base : B ≤ C ∧ B ≤ M
  blk : ∃ c, Blk w C 87 16 c ∧ c 0 = .int .i64 4 ∧ c 1 = .int .i64 0 ∧ c 2 = .map (some M) ∧ c 13 = .int .i64 cyc ∧
    (∃ lb lo, c 11 = .pointer (some ⟨lb, lo, none⟩) ∧ ((lb = C ∧ lo = 3) ∨ (lo = 0 ∧ B ≤ lb ∧ ∃ ce, Blk w lb 84 9 ce))) ∧ ∃ no xs, no ≤ k ∧ SliceIs w 82 1 (c 12) no xs ∧ ∀ g, (c 12).ownBlock = some g → B ≤ g
  map : MapI w Yba.prog 3 .i64 M n f
  ent : ∀ x v, f x = some v → ∃ E, v = .pointer (some ⟨E, 0, none⟩) ∧ B ≤ E ∧ EntryOK w E x (o x) (s x)

set_option maxRecDepth 100000 in
theorem room_any (C M n : Nat) (f : Int → Option Value) (w : World) (g0 : w.cell? ⟨C, 0, none⟩ = some (.int .i64 4)) (g2 : w.cell? ⟨C, 2, none⟩ = some (.map (some M))) (hmap : MapI w Yba.prog 3 .i64 M n f) (hn : n < 4) :
    Calls Yba.prog 22 #[.pointer (some ⟨C, 0, none⟩), .pointer none] w fun e w' => e = .returned (.pointer (some ⟨w.heap.size, 0, none⟩)) ∧
      Below w.heap.size w w' ∧ w'.heap.size = w.heap.size + 1 ∧ w'.heap[w.heap.size]? = some (.cells #[.int .i64 0, .int .i64 0, .string ⟨#[]⟩, .int .i64 0, .bool false, .int .i64 0, .int .i64 0, .pointer none, .pointer none] 84 (0, 0)) := by
  obtain ⟨m, hm, hlen0⟩ := hmap.run_len_all Yba.underlying81 3
  have hlen : ∀ q : Nat, (Builtin.len_ #[81] 3 #[.map (some M)]).run Yba.prog (w.drewN q) = .ok (.int .i64 m) (w.drewN q) := fun q => hlen0 _ rfl
  clear hlen0
  have hlt : (m : Int) < 4 := by omega
  go_enter Yba.func22, Yba.ntmps22
  go_wp2
  go_quiet (fail)
  go_wp2
  go_ret
  refine ⟨rfl, ?_, by simp [World.drewN], blocknew (w.drewN nq) _ rfl⟩
  exact ⟨rfl, rfl, rfl, by simp [World.drewN], fun k hk => Below.heap_alloc (w.drewN nq) _ k hk⟩

theorem renew_not (c : Value) (E : Nat) (w : World) (h : w.cell? ⟨E, 4, none⟩ = some (.bool false)) : Calls Yba.prog 31 #[c, .pointer (some ⟨E, 0, none⟩)] w fun e w' => e = .returned (.tuple #[]) ∧ w' = w := by
  go_enter Yba.func31, Yba.ntmps31
  go_wp2
  exact bodyPost_ret (results_none Yba.results31 _ _ _) rfl ⟨rfl, rfl⟩

theorem unlink_none (E : Nat) (w : World) (h : w.cell? ⟨E, 8, none⟩ = some (.pointer none)) : Calls Yba.prog 32 #[.pointer (some ⟨E, 0, none⟩)] w fun e w' => e = .returned (.tuple #[]) ∧ w' = w := by
  go_enter Yba.func32, Yba.ntmps32
  go_wp2
  exact bodyPost_ret (results_none Yba.results32 _ _ _) rfl ⟨rfl, rfl⟩

theorem stale_no (C : Nat) (x cyc : Int) (w : World) (h : w.cell? ⟨C, 13, none⟩ = some (.int .i64 cyc)) (hc : cyc ≤ 0) : Calls Yba.prog 21 #[.pointer (some ⟨C, 0, none⟩), .int .i64 x, .int .i64 0] w fun e w' => e = .returned (.bool false) ∧ w' = w := by
  have hd : decide ((0 : Int) < cyc) = false := by simp; omega
  go_enter Yba.func21, Yba.ntmps21
  go_wp2
  go_ret
  exact ⟨rfl, rfl⟩

set_option maxRecDepth 100000 in
theorem fill_any (C E : Nat) (x ts ver : Int) (d : ByteArray) (ce : Nat → Value) (w : World) (g13 : w.cell? ⟨C, 13, none⟩ = some (.int .i64 0)) (hE : Blk w E 84 9 ce) (e3 : ce 3 = .int .i64 x) (e4 : ce 4 = .bool false) (hCE : C ≠ E) :
    Calls Yba.prog 23 #[.pointer (some ⟨C, 0, none⟩), .pointer (some ⟨E, 0, none⟩), .int .i64 0, .agg #[.int .i64 ts, .int .i64 ver, .string d]] w fun e w' => e = .returned (.tuple #[]) ∧
      (∃ ce', Blk w' E 84 9 ce' ∧ ∀ j, 3 ≤ j → ce' j = ce j) ∧ w.grownBy w' (some E) := by
  have k0 := hE.cell (i := 0) (by omega)
  have k1 := hE.cell (i := 1) (by omega)
  have k2 := hE.cell (i := 2) (by omega)
  have k3 := hE.cell (i := 3) (by omega)
  have k4 := hE.cell (i := 4) (by omega)
  rw [e3] at k3
  rw [e4] at k4
  have z := hE.frozen
  have lE := hE.lt
  have lC := World.block_lt_of_cell? _ _ g13
  simp only at lC
  have hEC : E ≠ C := fun h => hCE h.symm
  have G13 : ∀ ob a b d', ((((w.setCell ⟨E, 0, none⟩ a).setCell ⟨E, 1, none⟩ b).setCell ⟨E, 2, none⟩ d').alloc ob).cell? ⟨C, 13, none⟩ = some (.int .i64 0) := fun ob a b d' =>
    (World.cell?_of_block (a := ⟨C, 13, none⟩) (by rw [Below.heap_alloc _ _ _ (by simpa using lC), heap_setCell_other _ _ _ _ hCE, heap_setCell_other _ _ _ _ hCE, heap_setCell_other _ _ _ _ hCE])).trans g13
  have K4 : ∀ ob a b d', ((((w.setCell ⟨E, 0, none⟩ a).setCell ⟨E, 1, none⟩ b).setCell ⟨E, 2, none⟩ d').alloc ob).cell? ⟨E, 4, none⟩ = some (.bool false) := fun ob a b d' => by
    rw [((((hE.set 0 a).set 1 b).set 2 d').alloc ob).cell (i := 4) (by omega)]
    simp [e4]
  go_enter Yba.func23, Yba.ntmps23
  go_wp2_with (first
    | (go_at_call 21; refine (stale_no C x 0 _ (G13 _ _ _ _) (by omega)).mono ?_; rintro e w' ⟨rfl, rfl⟩)
    | (go_at_call 31; refine (renew_not _ E _ (K4 _ _ _ _)).mono ?_; rintro e w' ⟨rfl, rfl⟩))
  go_end0
  refine ⟨rfl, ⟨_, (((hE.set 0 _).set 1 _).set 2 _).alloc _, fun j hj => ?_⟩, ?_⟩
  · have a0 : ¬ j = 0 := by omega
    have a1 : ¬ j = 1 := by omega
    have a2 : ¬ j = 2 := by omega
    simp [a0, a1, a2]
  · refine ⟨rfl, rfl, rfl, by simp, fun k hk hne => ?_⟩
    have hk' : k ≠ E := fun e => hne (by rw [e])
    rw [Below.heap_alloc _ _ _ (by simpa using hk), heap_setCell_other _ _ _ _ hk', heap_setCell_other _ _ _ _ hk', heap_setCell_other _ _ _ _ hk']

/-- What 'use' leaves: the ring's links alone have turned. -/
def Used (w w' : World) (C E lb : Nat) (c ce : Nat → Value) : Prop :=
  (∃ c', Blk w' C 87 16 c' ∧ c' 11 = .pointer (some ⟨E, 0, none⟩) ∧ ∀ j, j ≠ 10 → j ≠ 11 → c' j = c j) ∧ (∃ ce', Blk w' E 84 9 ce' ∧ ∀ j, j ≠ 7 → j ≠ 8 → ce' j = ce j) ∧
    (∀ cl, Blk w lb 84 9 cl → ∃ cl', Blk w' lb 84 9 cl' ∧ ∀ j, j ≠ 7 → cl' j = cl j) ∧ w'.os = w.os ∧ w'.tape = w.tape ∧ w'.output = w.output ∧ w'.heap.size = w.heap.size ∧ ∀ k, k ≠ C → k ≠ E → k ≠ lb → w'.heap[k]? = w.heap[k]?

set_option maxRecDepth 100000 in
theorem use_self (C E : Nat) (c ce : Nat → Value) (w : World) (hC : Blk w C 87 16 c) (c11 : c 11 = .pointer (some ⟨C, 3, none⟩)) (hE : Blk w E 84 9 ce) (e8 : ce 8 = .pointer none) :
    Calls Yba.prog 24 #[.pointer (some ⟨C, 0, none⟩), .pointer (some ⟨E, 0, none⟩)] w fun e w' => e = .returned (.tuple #[]) ∧ Used w w' C E C c ce := by
  have k7 := hE.cell (i := 7) (by omega)
  have k8 := hE.cell (i := 8) (by omega)
  have g10 := hC.cell (i := 10) (by omega)
  have g11 := hC.cell (i := 11) (by omega)
  rw [e8] at k8
  rw [c11] at g11
  have z := hE.frozen
  have zC := hC.frozen
  have lE := hE.lt
  have lC := hC.lt
  have hCE : C ≠ E := hC.ne hE (by decide)
  have hEC : E ≠ C := fun h => hCE h.symm
  go_enter Yba.func24, Yba.ntmps24
  go_wp2_with (go_at_call 32; refine (unlink_none E _ k8).mono ?_; rintro e w' ⟨rfl, rfl⟩)
  go_region
  go_wp2
  go_end0
  refine ⟨rfl, ⟨_, ((((hC.set_other hCE _).set_other hCE _).set 10 _).set 11 _).drew, by simp, fun j h1 h2 => by simp [h1, h2]⟩, ⟨_, ((((hE.set 7 _).set 8 _).set_other hEC _).set_other hEC _).drew, fun j h1 h2 => by simp [h1, h2]⟩, ?_, rfl, rfl, rfl, by simp, fun k h1 h2 _ => ?_⟩
  · intro cl hcl
    exact absurd rfl (hC.ne hcl (by decide))
  · show (World.setCell _ _ _).heap[k]? = _
    rw [heap_setCell_other _ _ _ _ h1, heap_setCell_other _ _ _ _ h1, heap_setCell_other _ _ _ _ h2, heap_setCell_other _ _ _ _ h2]

set_option maxRecDepth 100000 in
theorem use_other (C E B : Nat) (c ce cl : Nat → Value) (w : World) (hC : Blk w C 87 16 c) (c11 : c 11 = .pointer (some ⟨B, 0, none⟩)) (hE : Blk w E 84 9 ce) (e8 : ce 8 = .pointer none) (hB : Blk w B 84 9 cl) (hBE : B ≠ E) :
    Calls Yba.prog 24 #[.pointer (some ⟨C, 0, none⟩), .pointer (some ⟨E, 0, none⟩)] w fun e w' => e = .returned (.tuple #[]) ∧ Used w w' C E B c ce := by
  have k7 := hE.cell (i := 7) (by omega)
  have k8 := hE.cell (i := 8) (by omega)
  have b7 := hB.cell (i := 7) (by omega)
  have g11 := hC.cell (i := 11) (by omega)
  rw [e8] at k8
  rw [c11] at g11
  have z := hE.frozen
  have zB := hB.frozen
  have zC := hC.frozen
  have lE := hE.lt
  have lC := hC.lt
  have lB := hB.lt
  have hCE : C ≠ E := hC.ne hE (by decide)
  have hCB : C ≠ B := hC.ne hB (by decide)
  have hEC : E ≠ C := fun h => hCE h.symm
  have hBC : B ≠ C := fun h => hCB h.symm
  have hEB : E ≠ B := fun h => hBE h.symm
  go_enter Yba.func24, Yba.ntmps24
  go_wp2_with (go_at_call 32; refine (unlink_none E _ k8).mono ?_; rintro e w' ⟨rfl, rfl⟩)
  go_region
  go_wp2
  go_end0
  refine ⟨rfl, ⟨_, ((((hC.set_other hCE _).set_other hCE _).set_other hCB _).set 11 _).drew, by simp, fun j _ h2 => by simp [h2]⟩, ⟨_, ((((hE.set 7 _).set 8 _).set_other hEB _).set_other hEC _).drew, fun j h1 h2 => by simp [h1, h2]⟩, ?_, rfl, rfl, rfl, by simp, fun k h1 h2 h3 => ?_⟩
  · intro cl' hcl
    exact ⟨_, ((((hcl.set_other hBE _).set_other hBE _).set 7 _).set_other hBC _).drew, fun j h1 => by simp [h1]⟩
  · show (World.setCell _ _ _).heap[k]? = _
    rw [heap_setCell_other _ _ _ _ h1, heap_setCell_other _ _ _ _ h3, heap_setCell_other _ _ _ _ h2, heap_setCell_other _ _ _ _ h2]

#print axioms use_other
end Go.Proofs.Ybulkbzcc
