/-
  Latest(item); read(t, nil).
-/
import Derived.Test.YbulkbzccRead
import Derived.BigQuiet
import Derived.Deep.QuietTactic
namespace Go.Proofs.Ybulkbzcc
open Go.RowKit

set_option maxRecDepth 100000 in
theorem read_none (L : Nat) (t : Value) (w : World) :
    Calls Yba.prog 8 #[.pointer (some ⟨L, 0, none⟩), t, .slice none 0 0] w fun e w' => e = .returned t ∧ w' = w := by
  go_enter Yba.func8, Yba.ntmps8
  go_wp2
  go_loopw [1, 11] (fun v i wr => v = t ∧ i = .int .i64 0 ∧ wr = w) (fun _ _ _ => 0)
  case atStart => exact ⟨rfl, rfl, rfl⟩
  case round =>
    obtain ⟨rfl, rfl, rfl⟩ := hrel
    go_wp2
    go_ret
    exact ⟨rfl, rfl⟩

set_option maxRecDepth 100000 in
theorem latest10 (L K B o m c N C : Nat) (item v ver num : Int) (w : World) (hk : w.cell? ⟨L, 3, none⟩ = some (.slice (some ⟨K, 0, none⟩) N C)) (h0 : 0 ≤ item) (h1 : item < (N : Int)) (hm : m < 4611686018427387904)
    (hK : w.cell? ⟨K, item.toNat, none⟩ = some (.slice (some ⟨B, o, none⟩) (m + 1) c))
    (c0 : w.cell? ⟨B, o + m * 3, none⟩ = some (.int .i64 v)) (c1 : w.cell? ⟨B, o + m * 3 + 1, none⟩ = some (.int .i64 ver)) (c2 : w.cell? ⟨B, o + m * 3 + 2, none⟩ = some (.int .i64 num)) :
    Calls Yba.prog 10 #[.pointer (some ⟨L, 0, none⟩), .int .i64 item] w fun e w' => e = .returned (.tuple #[.int .i64 ver, .int .i64 v]) ∧ Below w.heap.size w w' := by
  go_enter Yba.func10, Yba.ntmps10
  go_wp2_with (go_at_call 20; refine (last_any L K B o m c N C item v ver num _ hk h0 h1 hm hK c0 c1 c2).mono ?_; rintro e w' ⟨rfl, hb⟩)
  go_quiet (fail)
  go_wp2
  have hb2 : Below w.heap.size w ((w'.alloc (.cells #[.int .i64 v, .int .i64 ver, .int .i64 num] 79)).drewN nq) := by
    have := hb.alloc hb.size (.cells #[.int .i64 v, .int .i64 ver, .int .i64 num] 79)
    exact ⟨this.os, this.tape, this.output, this.size, this.block⟩
  exact bodyPost_ret (v := .tuple #[.int .i64 ver, .int .i64 v]) (by simp [results, Yba.results10, go_sem]) rfl ⟨rfl, hb2⟩

end Go.Proofs.Ybulkbzcc
