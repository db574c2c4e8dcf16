import Derived.Test.YbulkbzccRows
import Derived.Test.YbulkbzccBlk
import Derived.RegionTactic
namespace Go.Proofs.Ybulkbzcc
open Go.RowKit

theorem info94 : (Yba.prog.info? 94).map (fun i => (i.zero, i.size, i.bytes)) = some (some (.slice none 0 0), 1, 24) := by kernel_rfl
theorem info79 : (Yba.prog.info? 79).map (fun i => (i.zero, i.size, i.bytes)) = some (some (.agg #[.int .i64 0, .int .i64 0, .int .i64 0]), 3, 24) := by kernel_rfl

/-- 'make([]T, n)' for elements of one cell: the array under a name of its own. -/
theorem make_one {t e : TypeId} {z : Value} {bytes : Nat} (ht : Yba.prog.underlying t = some (.slice e)) (hi : (Yba.prog.info? e).map (fun i => (i.zero, i.size, i.bytes)) = some (some z, 1, bytes)) (hz : z.cells = #[z]) (n : Nat) (hb : bytes * n ≤ 281474976710656) (h63 : n ≤ 9223372036854775807) :
    ∃ cur : Array Value, cur.size = n ∧ (∀ i, i < n → cur[i]? = some z) ∧ ∀ wx, (Instr.makeSlice t (.int .i64 (n : Int)) (.int .i64 (n : Int))).run Yba.prog wx = .ok (.slice (some ⟨wx.heap.size, 0, none⟩) n n) (wx.alloc (.cells cur e)) := by
  obtain ⟨i0, hi0, hz0, hz1, hz2⟩ := info_parts hi
  refine ⟨madeCells z.cells (n * 1), ?_, ?_, fun wx => ?_⟩
  · rw [hz, Nat.mul_one]; exact (madeCells_one z n).1
  · rw [hz, Nat.mul_one]; exact (madeCells_one z n).2
  · have hr := run_make (P := Yba.prog) wx t e i0 z ht hi0 hz0 .i64 .i64 n n (by omega) (by omega) (by rw [hz2]; omega) (by omega)
    rw [hr, hz1]
    simp

theorem make_three {t e : TypeId} {x y z : Value} {bytes : Nat} (ht : Yba.prog.underlying t = some (.slice e)) (hi : (Yba.prog.info? e).map (fun i => (i.zero, i.size, i.bytes)) = some (some (.agg #[x, y, z]), 3, bytes)) (n : Nat) (hb : bytes * n ≤ 281474976710656) (h63 : n ≤ 9223372036854775807) :
    ∃ cur : Array Value, cur.size = n * 3 ∧ (∀ i, i < n * 3 → cur[i]? = some (if i % 3 = 0 then x else if i % 3 = 1 then y else z)) ∧ ∀ wx, (Instr.makeSlice t (.int .i64 (n : Int)) (.int .i64 (n : Int))).run Yba.prog wx = .ok (.slice (some ⟨wx.heap.size, 0, none⟩) n n) (wx.alloc (.cells cur e)) := by
  obtain ⟨i0, hi0, hz0, hz1, hz2⟩ := info_parts hi
  refine ⟨madeCells #[x, y, z] (n * 3), (madeCells_three x y z (n * 3)).1, (madeCells_three x y z (n * 3)).2, fun wx => ?_⟩
  have hr := run_make (P := Yba.prog) wx t e i0 _ ht hi0 hz0 .i64 .i64 n n (by omega) (by omega) (by rw [hz2]; omega) (by omega)
  rw [hr, hz1]
  simp [Value.cells]

theorem heap_next (W : World) (A B : Obj) {i : Nat} (hi : i = W.heap.size) : ((W.alloc A).alloc B).heap[i]? = some A := by
  subst hi
  rw [Below.heap_alloc _ _ _ (by simp)]
  exact heap_alloc_new W A

theorem heap_four (w : World) (A B C D : Obj) : ((((w.alloc A).alloc B).alloc C).alloc D).heap[w.heap.size]? = some A := by
  rw [Below.heap_alloc _ _ _ (by simp; omega), Below.heap_alloc _ _ _ (by simp; omega), Below.heap_alloc _ _ _ (by simp)]
  exact heap_alloc_new w A

/-- The cells of the first versions' array after k rounds. -/
def firstCell (k : Nat) (j : Nat) : Value := .int .i64 (if j / 3 < k then (if j % 3 = 1 then ((j / 3 : Nat) : Int) else if j % 3 = 2 then 1 else 0) else 0)
/-- The cells of the array of slices after k rounds. -/
def keptCell (F k : Nat) (i : Nat) : Value := if i < k then .slice (some ⟨F, i * 3, none⟩) 1 1 else .slice none 0 0

theorem first_step {w : World} {F n k : Nat} (h : Blk w F 79 ((n + 1) * 3) (firstCell k)) :
    Blk (((w.setCell ⟨F, k * 3, none⟩ (.int .i64 0)).setCell ⟨F, k * 3 + 1, none⟩ (.int .i64 (k : Int))).setCell ⟨F, k * 3 + 2, none⟩ (.int .i64 1)) F 79 ((n + 1) * 3) (firstCell (k + 1)) := by
  refine (((h.set (k * 3) _).set (k * 3 + 1) _).set (k * 3 + 2) _).congr fun j hj => ?_
  simp only [firstCell]
  by_cases e2 : j = k * 3 + 2
  · subst e2
    have a1 : (k * 3 + 2) / 3 = k := by omega
    have a2 : (k * 3 + 2) % 3 = 2 := by omega
    simp [a1, a2]
  · by_cases e1 : j = k * 3 + 1
    · subst e1
      have a1 : (k * 3 + 1) / 3 = k := by omega
      have a2 : (k * 3 + 1) % 3 = 1 := by omega
      simp [a1, a2]
    · by_cases e0 : j = k * 3
      · subst e0
        have a1 : (k * 3) / 3 = k := by omega
        have a2 : (k * 3) % 3 = 0 := by omega
        simp [a1, a2]
      · have a1 : (j / 3 < k + 1) ↔ (j / 3 < k) := by omega
        simp [e0, e1, e2, a1]

theorem first_again {w : World} {F sz k : Nat} (h : Blk w F 79 sz (firstCell (k + 1))) : Blk (w.setCell ⟨F, k * 3, none⟩ (.int .i64 0)) F 79 sz (firstCell (k + 1)) := by
  refine (h.set (k * 3) _).congr fun j hj => ?_
  by_cases e0 : j = k * 3
  · subst e0
    have a2 : (k * 3) % 3 = 0 := by omega
    simp [firstCell, a2]
  · simp [e0]

theorem kept_step {w : World} {K F n k : Nat} (h : Blk w K 94 (n + 1) (keptCell F k)) : Blk (w.setCell ⟨K, k, none⟩ (.slice (some ⟨F, k * 3, none⟩) 1 1)) K 94 (n + 1) (keptCell F (k + 1)) := by
  refine (h.set k _).congr fun j hj => ?_
  by_cases e0 : j = k
  · subst e0
    simp [keptCell]
  · have a1 : (j < k + 1) ↔ (j < k) := by omega
    simp [keptCell, e0, a1]

set_option maxRecDepth 100000 in
set_option maxHeartbeats 1000000 in
theorem newStore_any (B0 n : Nat) (w : World) (hB : Blk w B0 3 n (fun _ => .int .i64 0)) (hn : n ≤ 1000) :
    Calls Yba.prog 16 #[.slice (some ⟨B0, 0, none⟩) n n] w fun e w' => e = .returned (.agg #[.slice (some ⟨w.heap.size + 1, 0, none⟩) (n + 1) (n + 1), .slice none 0 0, .slice none 0 0, .int .i64 n, .int .i64 0]) ∧ Below w.heap.size w w' ∧
      Blk w' (w.heap.size + 1) 94 (n + 1) (keptCell (w.heap.size + 3) (n + 1)) ∧ Blk w' (w.heap.size + 3) 79 ((n + 1) * 3) (firstCell (n + 1)) ∧ w'.heap.size = w.heap.size + 4 := by
  obtain ⟨curK, sK, cK, hmK⟩ := make_one Yba.underlying67 info94 rfl (n + 1) (by omega) (by omega)
  obtain ⟨curF, sF, cF, hmF⟩ := make_three Yba.underlying94 info79 (n + 1) (by omega) (by omega)
  have ec : ((n + 1 : Nat) : Int) = (n : Int) + 1 := by omega
  rw [ec] at hmK hmF
  have hB0 := hB.lt
  go_enter Yba.func16, Yba.ntmps16
  go_wp2
  go_loopw [20] (fun i wr => ∃ k : Nat, k ≤ n + 1 ∧ i = .int .i64 k ∧ Blk wr (w.heap.size + 1) 94 (n + 1) (keptCell (w.heap.size + 1 + 1 + 1) k) ∧ Blk wr (w.heap.size + 1 + 1 + 1) 79 ((n + 1) * 3) (firstCell k) ∧
      wr.heap[w.heap.size + 1 + 1]? = some (.cells #[.slice (some ⟨w.heap.size + 1, 0, none⟩) (n + 1) (n + 1), .slice none 0 0, .slice none 0 0, .int .i64 n, .int .i64 0] 70 (0, 0)) ∧
      wr.heap[w.heap.size]? = some (.cells #[.slice none 0 0, .slice none 0 0, .slice none 0 0, .int .i64 0, .int .i64 0] 70 (0, 0)) ∧ Below w.heap.size w wr ∧ wr.heap.size = w.heap.size + 1 + 1 + 1 + 1)
    (fun i _ => n + 1 - (intOf i).toNat)
  case atStart =>
    refine ⟨0, Nat.zero_le _, rfl, ?_, ?_, ?_, ?_, ?_, ?_⟩
    · have h1 := Blk.new (w.alloc (Obj.cells #[.slice none 0 0, .slice none 0 0, .slice none 0 0, .int .i64 0, .int .i64 0] 70)) curK 94 (c := keptCell (w.heap.size + 1 + 1 + 1) 0) sK (fun i hi => by rw [cK i hi]; simp [keptCell])
      have h2 := (h1.alloc (Obj.cells #[.slice (some ⟨w.heap.size + 1, 0, none⟩) (n + 1) (n + 1), .slice none 0 0, .slice none 0 0, .int .i64 n, .int .i64 0] 70)).alloc (.cells curF 79)
      simpa using h2
    · have h1 := Blk.new (((w.alloc (Obj.cells #[.slice none 0 0, .slice none 0 0, .slice none 0 0, .int .i64 0, .int .i64 0] 70)).alloc (.cells curK 94)).alloc (Obj.cells #[.slice (some ⟨w.heap.size + 1, 0, none⟩) (n + 1) (n + 1), .slice none 0 0, .slice none 0 0, .int .i64 n, .int .i64 0] 70)) curF 79 (c := firstCell 0) sF (fun i hi => by rw [cF i hi]; simp [firstCell])
      simpa using h1
    · exact heap_next _ _ _ (by simp)
    · exact heap_four _ _ _ _ _
    · exact ((((Below.refl _ _).alloc (Nat.le_refl _) _).alloc (by simp) _).alloc (by simp; omega) _).alloc (by simp; omega) _
    · simp
  case round =>
    obtain ⟨k, hk, rfl, bK, bF, bS, bR, hbel, hsz⟩ := hrel
    by_cases hlt : k < n + 1
    · have f0 : wr.cell? ⟨w.heap.size + 1 + 1 + 1, k * 3, none⟩ = some (.int .i64 0) := by
        rw [bF.cell (by omega)]; simp [firstCell]
      have f1 : wr.cell? ⟨w.heap.size + 1 + 1 + 1, k * 3 + 1, none⟩ = some (.int .i64 0) := by
        rw [bF.cell (by omega)]; simp [firstCell]; omega
      have f2 : wr.cell? ⟨w.heap.size + 1 + 1 + 1, k * 3 + 2, none⟩ = some (.int .i64 0) := by
        rw [bF.cell (by omega)]; simp [firstCell]; omega
      have z0 := bF.frozen (k * 3)
      have z1 := bF.frozen (k * 3 + 1)
      have z2 := bF.frozen (k * 3 + 2)
      have k0 : wr.cell? ⟨w.heap.size + 1, k, none⟩ = some (.slice none 0 0) := by
        rw [bK.cell (by omega)]; simp [keptCell]
      have zk := bK.frozen k
      have s0 : wr.cell? ⟨w.heap.size + 1 + 1, 0, none⟩ = some (.slice (some ⟨w.heap.size + 1, 0, none⟩) (n + 1) (n + 1)) := by
        rw [cell_of_row _ _ _ _ _ _ bS]; rfl
      by_cases hk0 : k = 0
      · subst hk0
        go_wp2
        go_region
        all_goals go_wp2
        go_roundw
        case rel => exact ⟨0 + 1, by omega, rfl, (kept_step (((bK.set_other (by dsimp only; omega) _).set_other (by dsimp only; omega) _).set_other (by dsimp only; omega) _)).drew, ((first_step bF).set_other (by dsimp only; omega) _).drew, blockdrew (blockset (blockset (blockset (blockset bS (by dsimp only; omega) _) (by dsimp only; omega) _) (by dsimp only; omega) _) (by dsimp only; omega) _), blockdrew (blockset (blockset (blockset (blockset bR (by dsimp only; omega) _) (by dsimp only; omega) _) (by dsimp only; omega) _) (by dsimp only; omega) _), ((((hbel.setCell (by dsimp only; omega) _).setCell (by dsimp only; omega) _).setCell (by dsimp only; omega) _).setCell (by dsimp only; omega) _).drew, by simp [hsz]⟩
        case measure => simp [intOf]
      · have hk1 : (0 : Int) < (k : Int) := by omega
        have l0 : wr.cell? ⟨B0, k - 1, none⟩ = some (.int .i64 0) := (hbel.cell (p := ⟨B0, k - 1, none⟩) hB0).trans (hB.cell (by omega))
        go_wp2
        go_region
        all_goals go_wp2
        go_roundw
        case rel => exact ⟨k + 1, by omega, by go_num, (kept_step ((((bK.set_other (by dsimp only; omega) _).set_other (by dsimp only; omega) _).set_other (by dsimp only; omega) _).set_other (by dsimp only; omega) _)).drew, ((first_again (first_step bF)).set_other (by dsimp only; omega) _).drew, blockdrew (blockset (blockset (blockset (blockset (blockset bS (by dsimp only; omega) _) (by dsimp only; omega) _) (by dsimp only; omega) _) (by dsimp only; omega) _) (by dsimp only; omega) _), blockdrew (blockset (blockset (blockset (blockset (blockset bR (by dsimp only; omega) _) (by dsimp only; omega) _) (by dsimp only; omega) _) (by dsimp only; omega) _) (by dsimp only; omega) _), (((((hbel.setCell (by dsimp only; omega) _).setCell (by dsimp only; omega) _).setCell (by dsimp only; omega) _).setCell (by dsimp only; omega) _).setCell (by dsimp only; omega) _).drew, by simp [hsz]⟩
        case measure => simp [intOf]; omega
    · have hkn : k = n + 1 := by omega
      subst hkn
      have s0 : wr.cell? ⟨w.heap.size + 1 + 1, 0, none⟩ = some (.slice (some ⟨w.heap.size + 1, 0, none⟩) (n + 1) (n + 1)) := by rw [cell_of_row _ _ _ _ _ _ bS]; rfl
      have s1 : wr.cell? ⟨w.heap.size + 1 + 1, 1, none⟩ = some (.slice none 0 0) := by rw [cell_of_row _ _ _ _ _ _ bS]; rfl
      have s2 : wr.cell? ⟨w.heap.size + 1 + 1, 2, none⟩ = some (.slice none 0 0) := by rw [cell_of_row _ _ _ _ _ _ bS]; rfl
      have s3 : wr.cell? ⟨w.heap.size + 1 + 1, 3, none⟩ = some (.int .i64 n) := by rw [cell_of_row _ _ _ _ _ _ bS]; rfl
      have s4 : wr.cell? ⟨w.heap.size + 1 + 1, 4, none⟩ = some (.int .i64 0) := by rw [cell_of_row _ _ _ _ _ _ bS]; rfl
      have r0 : wr.cell? ⟨w.heap.size, 0, none⟩ = some (.slice none 0 0) := by rw [cell_of_row _ _ _ _ _ _ bR]; rfl
      have r1 : wr.cell? ⟨w.heap.size, 1, none⟩ = some (.slice none 0 0) := by rw [cell_of_row _ _ _ _ _ _ bR]; rfl
      have r2 : wr.cell? ⟨w.heap.size, 2, none⟩ = some (.slice none 0 0) := by rw [cell_of_row _ _ _ _ _ _ bR]; rfl
      have r3 : wr.cell? ⟨w.heap.size, 3, none⟩ = some (.int .i64 0) := by rw [cell_of_row _ _ _ _ _ _ bR]; rfl
      have r4 : wr.cell? ⟨w.heap.size, 4, none⟩ = some (.int .i64 0) := by rw [cell_of_row _ _ _ _ _ _ bR]; rfl
      have z0 : ∀ i, wr.frozen? ⟨w.heap.size, i, none⟩ = false := fun i => frozen_of_row _ _ _ _ _ bR
      go_wp2
      refine bodyPost_ret (v := .agg #[.slice (some ⟨w.heap.size + 1, 0, none⟩) (n + 1) (n + 1), .slice none 0 0, .slice none 0 0, .int .i64 n, .int .i64 0]) (by simp [results, Yba.results16, go_sem, r0, r1, r2, r3, r4]) rfl ⟨rfl, ?_, ?_, ?_, ?_⟩
      · exact (((((hbel.setCell (Nat.le_refl _) _).setCell (Nat.le_refl _) _).setCell (Nat.le_refl _) _).setCell (Nat.le_refl _) _).setCell (Nat.le_refl _) _)
      · exact (((((bK.set_other (by dsimp only; omega) _).set_other (by dsimp only; omega) _).set_other (by dsimp only; omega) _).set_other (by dsimp only; omega) _).set_other (by dsimp only; omega) _)
      · exact (((((bF.set_other (by dsimp only; omega) _).set_other (by dsimp only; omega) _).set_other (by dsimp only; omega) _).set_other (by dsimp only; omega) _).set_other (by dsimp only; omega) _)
      · simp [hsz]
end Go.Proofs.Ybulkbzcc
