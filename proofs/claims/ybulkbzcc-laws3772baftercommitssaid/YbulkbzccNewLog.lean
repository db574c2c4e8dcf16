import Derived.Test.YbulkbzccNewStore
import Derived.Deep.RegionWith
namespace Go.Proofs.Ybulkbzcc
open Go.RowKit

theorem info97 : (Yba.prog.info? 97).map (fun i => (i.zero, i.size, i.bytes)) = some (some (.slice none 0 0), 1, 24) := by kernel_rfl
theorem info2 : (Yba.prog.info? 2).map (fun i => (i.zero, i.size, i.bytes)) = some (some (.int .i64 0), 1, 8) := by kernel_rfl
theorem info3 : (Yba.prog.info? 3).map (fun i => (i.zero, i.size, i.bytes)) = some (some (.int .i64 0), 1, 8) := by kernel_rfl

/-- A log as NewLog leaves it, in blocks from B on. -/
def FreshLog (w : World) (B L n : Nat) : Prop :=
  ∃ K F O G, B ≤ L ∧ B ≤ K ∧ B ≤ F ∧ B ≤ O ∧ B ≤ G ∧
    w.heap[L]? = some (.cells #[.int .i64 0, .int .i64 n, .int .i64 1, .slice (some ⟨K, 0, none⟩) (n + 1) (n + 1), .slice none 0 0, .slice none 0 0, .int .i64 n, .int .i64 0, .int .i64 0, .slice none 0 0, .slice none 0 0, .slice none 0 0,
      .slice (some ⟨O, 0, none⟩) (n + 1) (n + 1), .slice (some ⟨G, 0, none⟩) (n + 1) (n + 1), .slice none 0 0] 75 (0, 0)) ∧
    Blk w K 94 (n + 1) (keptCell F (n + 1)) ∧ Blk w F 79 ((n + 1) * 3) (firstCell (n + 1)) ∧ Blk w O 97 (n + 1) (fun _ => .slice none 0 0) ∧ Blk w G 2 (n + 1) (fun _ => .int .i64 0)

set_option maxRecDepth 100000 in
set_option maxHeartbeats 1000000 in
theorem newLog_any (B0 n : Nat) (w : World) (hB : Blk w B0 3 n (fun _ => .int .i64 0)) (hn : n ≤ 1000) :
    Calls Yba.prog 7 #[.int .i64 0, .slice (some ⟨B0, 0, none⟩) n n] w fun e w' => ∃ L, e = .returned (.pointer (some ⟨L, 0, none⟩)) ∧ FreshLog w' w.heap.size L n ∧ Below w.heap.size w w' := by
  obtain ⟨curO, sO, cO, hmO⟩ := make_one Yba.underlying72 info97 rfl (n + 1) (by omega) (by omega)
  obtain ⟨curG, sG, cG, hmG⟩ := make_one Yba.underlying37 info2 rfl (n + 1) (by omega) (by omega)
  have ec : ((n + 1 : Nat) : Int) = (n : Int) + 1 := by omega
  rw [ec] at hmO hmG
  have ew : IntKind.i64.wrap ((n : Int) + 1) = (n : Int) + 1 := by rw [IntKind.wrap_i64]; omega
  go_enter Yba.func7, Yba.ntmps7
  go_wp2
  go_region_with (go_at_call 16; refine (newStore_any B0 n _ ?_ hn).mono ?_; (repeat (first | exact hB | apply Blk.alloc | apply Blk.drew)); rintro e w1 ⟨rfl, hb1, hK1, hF1, hs1⟩; (try simp only [World.size_alloc, World.size_drew] at hK1 hF1 hs1 hb1))
  all_goals go_wp2
  all_goals go_ret
  · refine ⟨w.heap.size + 4 + 1 + 1, rfl, ⟨w.heap.size + 1, w.heap.size + 3, w.heap.size + 4, w.heap.size + 4 + 1, by omega, by omega, by omega, by omega, by omega, ?_, ?_, ?_, ?_, ?_⟩, ?_⟩
    · exact blocknew _ _ (by simp [hs1])
    · exact ((hK1.alloc _).alloc _).alloc _
    · exact ((hF1.alloc _).alloc _).alloc _
    · exact ((Blk.new_at _ _ _ (by simp [hs1]) sO cO).alloc _).alloc _
    · exact (Blk.new_at _ _ _ (by simp [hs1]) sG cG).alloc _
    · exact (((((Below.refl _ _).drew.trans (hb1.mono (by omega))).alloc (by first | omega | (simp; omega)) _).alloc (by first | omega | (simp; omega)) _).alloc (by first | omega | (simp; omega)) _)
  · refine ⟨w.heap.size + 4 + 1 + 1, rfl, ⟨w.heap.size + 1, w.heap.size + 3, w.heap.size + 4 + 1, w.heap.size + 4, by omega, by omega, by omega, by omega, by omega, ?_, ?_, ?_, ?_, ?_⟩, ?_⟩
    · exact blocknew _ _ (by simp [hs1])
    · exact ((hK1.alloc _).alloc _).alloc _
    · exact ((hF1.alloc _).alloc _).alloc _
    · exact (Blk.new_at _ _ _ (by simp [hs1]) sO cO).alloc _
    · exact ((Blk.new_at _ _ _ (by simp [hs1]) sG cG).alloc _).alloc _
    · exact (((((Below.refl _ _).drew.trans (hb1.mono (by omega))).alloc (by first | omega | (simp; omega)) _).alloc (by first | omega | (simp; omega)) _).alloc (by first | omega | (simp; omega)) _)
  · refine ⟨w.heap.size + 1 + 4 + 1, rfl, ⟨w.heap.size + 1 + 1, w.heap.size + 1 + 3, w.heap.size, w.heap.size + 1 + 4, by omega, by omega, by omega, by omega, by omega, ?_, ?_, ?_, ?_, ?_⟩, ?_⟩
    · exact blocknew _ _ (by simp [hs1])
    · exact (hK1.alloc _).alloc _
    · exact (hF1.alloc _).alloc _
    · exact (((Blk.new_at _ _ _ rfl sO cO).drew.below hb1 (by omega)).alloc _).alloc _
    · exact (Blk.new_at _ _ _ (by simp [hs1]) sG cG).alloc _
    · exact (((((Below.refl _ _).alloc (Nat.le_refl _) _).drew.trans (hb1.mono (by omega))).alloc (by first | omega | (simp; omega)) _).alloc (by first | omega | (simp; omega)) _)
  · refine ⟨w.heap.size + 1 + 1 + 4, rfl, ⟨w.heap.size + 1 + 1 + 1, w.heap.size + 1 + 1 + 3, w.heap.size, w.heap.size + 1, by omega, by omega, by omega, by omega, by omega, ?_, ?_, ?_, ?_, ?_⟩, ?_⟩
    · exact blocknew _ _ (by simp [hs1])
    · exact hK1.alloc _
    · exact hF1.alloc _
    · exact (((Blk.new_at _ _ _ rfl sO cO).alloc _).drew.below hb1 (by omega)).alloc _
    · exact ((Blk.new_at _ _ _ (by simp) sG cG).drew.below hb1 (by omega)).alloc _
    · exact (((((Below.refl _ _).alloc (Nat.le_refl _) _).alloc (by simp) _).drew.trans (hb1.mono (by omega))).alloc (by first | omega | (simp; omega)) _)
  · refine ⟨w.heap.size + 1 + 4 + 1, rfl, ⟨w.heap.size + 1 + 1, w.heap.size + 1 + 3, w.heap.size + 1 + 4, w.heap.size, by omega, by omega, by omega, by omega, by omega, ?_, ?_, ?_, ?_, ?_⟩, ?_⟩
    · exact blocknew _ _ (by simp [hs1])
    · exact (hK1.alloc _).alloc _
    · exact (hF1.alloc _).alloc _
    · exact (Blk.new_at _ _ _ (by simp [hs1]) sO cO).alloc _
    · exact (((Blk.new_at _ _ _ rfl sG cG).drew.below hb1 (by omega)).alloc _).alloc _
    · exact (((((Below.refl _ _).alloc (Nat.le_refl _) _).drew.trans (hb1.mono (by omega))).alloc (by first | omega | (simp; omega)) _).alloc (by first | omega | (simp; omega)) _)
  · refine ⟨w.heap.size + 1 + 1 + 4, rfl, ⟨w.heap.size + 1 + 1 + 1, w.heap.size + 1 + 1 + 3, w.heap.size + 1, w.heap.size, by omega, by omega, by omega, by omega, by omega, ?_, ?_, ?_, ?_, ?_⟩, ?_⟩
    · exact blocknew _ _ (by simp [hs1])
    · exact hK1.alloc _
    · exact hF1.alloc _
    · exact ((Blk.new_at _ _ _ (by simp) sO cO).drew.below hb1 (by omega)).alloc _
    · exact (((Blk.new_at _ _ _ rfl sG cG).alloc _).drew.below hb1 (by omega)).alloc _
    · exact (((((Below.refl _ _).alloc (Nat.le_refl _) _).alloc (by simp) _).drew.trans (hb1.mono (by omega))).alloc (by first | omega | (simp; omega)) _)
end Go.Proofs.Ybulkbzcc
