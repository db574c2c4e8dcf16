import Derived.Test.YbulkbzccRows
import Derived.WalkKit
namespace Go.Proofs.Ybulkbzcc
open Go.RowKit

set_option maxRecDepth 100000 in
theorem last_any (L K B o m c N C : Nat) (item v ver num : Int) (w : World) (hk : w.cell? ⟨L, 3, none⟩ = some (.slice (some ⟨K, 0, none⟩) N C)) (h0 : 0 ≤ item) (h1 : item < (N : Int)) (hm : m < 4611686018427387904)
    (hK : w.cell? ⟨K, item.toNat, none⟩ = some (.slice (some ⟨B, o, none⟩) (m + 1) c))
    (c0 : w.cell? ⟨B, o + m * 3, none⟩ = some (.int .i64 v)) (c1 : w.cell? ⟨B, o + m * 3 + 1, none⟩ = some (.int .i64 ver)) (c2 : w.cell? ⟨B, o + m * 3 + 2, none⟩ = some (.int .i64 num)) :
    Calls Yba.prog 20 #[.pointer (some ⟨L, 3, none⟩), .int .i64 item] w fun e w' => e = .returned (.agg #[.int .i64 v, .int .i64 ver, .int .i64 num]) ∧ Below w.heap.size w w' := by
  have l1 := World.block_lt_of_cell? _ _ hk
  have l2 := World.block_lt_of_cell? _ _ hK
  have l3 := World.block_lt_of_cell? _ _ c0
  simp only at l1 l2 l3
  go_enter Yba.func20, Yba.ntmps20
  go_wp2
  exact bodyPost_ret (v := .agg #[.int .i64 v, .int .i64 ver, .int .i64 num]) (by simp [results, Yba.results20, go_sem]) rfl ⟨rfl, (Below.refl _ _).alloc (Nat.le_refl _) _⟩

theorem field79_1 (v ver num : Int) (w : World) : (Instr.field 79 (.agg #[.int .i64 v, .int .i64 ver, .int .i64 num]) 1).run Yba.prog w = .ok (.int .i64 ver) w := by kernel_rfl
theorem field79_0 (v ver num : Int) (w : World) : (Instr.field 79 (.agg #[.int .i64 v, .int .i64 ver, .int .i64 num]) 0).run Yba.prog w = .ok (.int .i64 v) w := by kernel_rfl

set_option maxRecDepth 100000 in
theorem latest_any (L K B o m c N C : Nat) (item v ver num : Int) (w : World) (hk : w.cell? ⟨L, 3, none⟩ = some (.slice (some ⟨K, 0, none⟩) N C)) (h0 : 0 ≤ item) (h1 : item < (N : Int)) (hm : m < 4611686018427387904)
    (hK : w.cell? ⟨K, item.toNat, none⟩ = some (.slice (some ⟨B, o, none⟩) (m + 1) c))
    (c0 : w.cell? ⟨B, o + m * 3, none⟩ = some (.int .i64 v)) (c1 : w.cell? ⟨B, o + m * 3 + 1, none⟩ = some (.int .i64 ver)) (c2 : w.cell? ⟨B, o + m * 3 + 2, none⟩ = some (.int .i64 num)) :
    Calls Yba.prog 17 #[.pointer (some ⟨L, 3, none⟩), .int .i64 item] w fun e w' => e = .returned (.int .i64 ver) ∧ Below w.heap.size w w' := by
  have hfd := field79_1
  go_enter Yba.func17, Yba.ntmps17
  go_wp2_with (go_at_call 20; refine (last_any L K B o m c N C item v ver num _ hk h0 h1 hm hK c0 c1 c2).mono ?_; rintro e w' ⟨rfl, hb⟩)
  go_ret
  exact ⟨rfl, hb⟩
end Go.Proofs.Ybulkbzcc
