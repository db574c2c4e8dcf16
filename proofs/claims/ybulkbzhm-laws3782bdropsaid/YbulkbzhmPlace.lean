/-
  place(n) for the numbers 0, 1, 2.
-/
import Derived.Test.YbulkbzhmRows
import Derived.Test.YbulkbzhmChg
import Derived.BigQuiet
import Derived.Deep.QuietTactic
namespace Go.Proofs.Ybulkbzhm
set_option linter.unusedSectionVars false
variable [Base]
open Go.RowKit

set_option maxRecDepth 100000 in
theorem len64_small (x : Int) (w : World) (h0 : 64 ≤ x) (h1 : x ≤ 66) : Calls Yba.prog 44 #[.int .u64 x] w fun e w' => e = .returned (.int .i64 7) ∧ w' = w := by
  have hx : x = 64 ∨ x = 65 ∨ x = 66 := by omega
  rcases hx with rfl | rfl | rfl <;>
  · go_enter Yba.func44, Yba.ntmps44
    go_wp2
    go_ret
    exact ⟨by kernel_rfl, rfl⟩

set_option maxRecDepth 100000 in
theorem len_small (x : Int) (w : World) (h0 : 64 ≤ x) (h1 : x ≤ 66) : Calls Yba.prog 40 #[.int .u64 x] w fun e w' => e = .returned (.int .i64 7) ∧ w' = w := by
  go_enter Yba.func40, Yba.ntmps40
  go_wp2_with fail
  all_goals try (exfalso; omega)
  refine (len64_small x w h0 h1).mono ?_
  rintro e w' ⟨rfl, rfl⟩
  go_wp2
  go_ret
  exact ⟨rfl, rfl⟩

set_option maxRecDepth 100000 in
theorem place_small (n : Nat) (w : World) (hn : n ≤ 2) : Calls Yba.prog 33 #[.int .i64 (n : Int)] w fun e w' => e = .returned (.tuple #[.int .i64 0, .int .u64 (n : Int)]) ∧ ∃ m, w' = w.drewN m := by
  have hx : n = 0 ∨ n = 1 ∨ n = 2 := by omega
  rcases hx with rfl | rfl | rfl <;>
  · go_enter Yba.func33, Yba.ntmps33
    go_wp2_with (go_at_call 40; refine (len_small _ _ (by decide) (by decide)).mono ?_; rintro e w' ⟨rfl, rfl⟩)
    go_quiet (fail)
    go_wp2
    exact bodyPost_ret (v := .tuple #[.int .i64 0, .int .u64 _]) (by simp [results, Yba.results33, go_sem]) rfl ⟨rfl, _, rfl⟩

#print axioms place_small
end Go.Proofs.Ybulkbzhm
