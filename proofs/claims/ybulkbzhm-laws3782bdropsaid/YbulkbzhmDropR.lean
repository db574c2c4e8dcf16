/-
  What dropNested does.
-/
import Derived.Test.YbulkbzhmDropB
namespace Go.Proofs.Ybulkbzhm
set_option linter.unusedSectionVars false
variable [Base]
open Go.RowKit Go.Maps
open Go.WideShapes (add_plain)

/-- What dropNested does, where t holds l at position k. -/
structure DropRel (s s' : St) (t l k : Nat) : Prop where
  thIn : ∀ l' u, l' ≤ 2 → ((∃ j, j < s'.hn l' ∧ s'.th (l', j) = u) ↔ (∃ j, j < s.hn l' ∧ s.th (l', j) = u) ∧ ¬ (l' = l ∧ u = t))
  live : (liveK (s'.xk t)).length + (s.sl (l, k)).length = (liveK (s.xk t)).length
  pz : s'.pz + (s.pd (l, k)).length = s.pz
  ph : ∀ a, a ∈ s.pd (l, k) → s'.ph (key a l) = false
  ct : s'.ct l ≠ 0 ↔ s.ct l ≠ 0 ∧ s'.hn l ≠ 0

/-- What dropNested may turn: no list of pending accesses. -/
def Ed (e : TypeId) : Prop := Ea e ∧ e ≠ 63

end Go.Proofs.Ybulkbzhm
