/-
  slices.Grow(least[:0], lv).
-/
import Derived.Test.YbulkbzhmGrow42
namespace Go.Proofs.Ybulkbzhm
set_option linter.unusedSectionVars false
variable [Base]
open Go.RowKit
open Go.WideShapes (add_plain)

/-- What a tree's row is: nothing yet, or a row of numbers up to its capacity, at least. -/
def LeastV (w : World) (v : Value) (n : Nat) : Prop := (v = .slice none 0 0 ∧ n = 0) ∨ ∃ g c sz, v = .slice (some ⟨g, 0, none⟩) n c ∧ n ≤ c ∧ c ≤ sz ∧ c ≤ maxLen ∧ U64s w g sz

set_option maxRecDepth 100000 in
theorem grow42_room (g c lv : Nat) (w : World) (h : lv ≤ c) (hc : c ≤ 9223372036854775807) :
    Calls Yba.prog 42 #[.slice (some ⟨g, 0, none⟩) 0 c, .int .i64 (lv : Int)] w fun e w' => e = .returned (.slice (some ⟨g, 0, none⟩) 0 c) ∧ w' = w := by
  go_enter Yba.func42, Yba.ntmps42
  go_wp2
  all_goals first
    | (go_ret; exact ⟨rfl, rfl⟩)
    | (exfalso; omega)

attribute [-go_sem] Builtin.append_ in
set_option maxRecDepth 100000 in
theorem grow42_nil (lv : Nat) (w : World) (hB : Base.n ≤ w.heap.size) (h0 : 0 < lv) (hl : lv ≤ 100000) :
    Calls Yba.prog 42 #[.slice none 0 0, .int .i64 (lv : Int)] w fun e w' => ∃ c, lv ≤ c ∧ c ≤ maxLen ∧ e = .returned (.slice (some ⟨w.heap.size, 0, none⟩) 0 c) ∧ U64s w' w.heap.size c ∧ Below w.heap.size w w' ∧ w'.heap.size = w.heap.size + 1 := by
  obtain ⟨cap, hc, hcm, w1, hr, hu, hb, hs⟩ := run_appendZ_nil w hB lv 97 h0 (by omega)
  go_enter Yba.func42, Yba.ntmps42
  go_wp2
  all_goals first
    | (go_ret; exact ⟨cap, hc, hcm, rfl, hu, hb, hs⟩)
    | (exfalso; omega)
    | trace_state

attribute [-go_sem] Builtin.append_ in
set_option maxRecDepth 100000 in
theorem grow42_some (g c lv sz : Nat) (w : World) (hu0 : U64s w g sz) (hcs : c ≤ sz) (h0 : c < lv) (hl : lv ≤ 100000) :
    Calls Yba.prog 42 #[.slice (some ⟨g, 0, none⟩) 0 c, .int .i64 (lv : Int)] w fun e w' => ∃ c', lv ≤ c' ∧ c' ≤ maxLen ∧ e = .returned (.slice (some ⟨w.heap.size, 0, none⟩) 0 c') ∧ U64s w' w.heap.size c' ∧ Below w.heap.size w w' ∧ w'.heap.size = w.heap.size + 1 := by
  obtain ⟨cap, hc, hcm, w1, hr, hu, hb, hs⟩ := run_appendZ w g c (lv - c) sz 97 hu0 hcs (by omega) (by omega)
  have e1 : ((lv - c : Nat) : Int) = (lv : Int) - (c : Int) := by omega
  have e2 : c + (lv - c) = lv := by omega
  rw [e1, e2] at hr
  rw [e2] at hc
  go_enter Yba.func42, Yba.ntmps42
  go_wp2
  all_goals first
    | (go_ret; exact ⟨cap, hc, hcm, rfl, hu, hb, hs⟩)
    | (exfalso; omega)
    | trace_state

end Go.Proofs.Ybulkbzhm
