/-
  No cell of these rows narrows 'for every input' (looked for: loops, veiled, ifaces, maps, wideKeys, modest, calm, conditions, laid).
  DERIVED. THE GIVEN ROWS OF THIS SEAT. 1 by the template 'for every input the law returns true; each argument reads behind the call as it read before'; 0 by the template 'total and deterministic' (their statements: YbulkbzhmTotals.lean).
  GIVEN WITH THE SEED: the statements are not yours to turn. If you find one false, say at which input.
  Laid BY PROGRAM, IN A SANDBOX (cutbox-rows.mjs): the forced cells as the released guide's own fill.sh prints them over the translation 9e047ae771b1f2db… (all of the seat's roots in one cut). By AI agents, Wed Nov 11 2026. No macro, syntax, notation, axiom, sorry.
-/
import Derived.Test.YbulkbzhmChecked
import GoSem.Claim
import GoSem.ClaimJoined
import GoSem.ClaimMapViews
import Derived.JoinedTies
import Derived.KernelRfl
namespace Go.Proofs.Ybulkbzhm
/- THE CELL 'sum', in the pinned program and in every row, IS THE sha256 OF THE DUMP (.gsa) THAT YbulkbzhmProg.lean LOADS. Nothing in Lean hashes anything: it is a label: what it is worth is what the hold of that sum in a sandbox is worth. -/
noncomputable def Yba.pinned : Pinned := { name := "ybulkbzhm", sum := "9e047ae771b1f2db622251480d3a12f1d55d55145403da8d3a7964593e79761b", checked := Yba.checked }
namespace Rows
def none {H : Type} : Left H := { results := [], args := [] }

/-- 'race.LawS3782BDrop': WHATEVER THE INPUT: true; the input reads as it did. -/
def lawS3782BDropSpec : ChangeSpec := { name := "lawS3782BDrop", fn := fun _ => fun
  | [d1, d2, d3] => { results := [.lit (.bool true)], args := [d1, d2, d3] }
  | _ => none }
def lawS3782BDropRow : OpenClaim := { program := "ybulkbzhm", sum := "9e047ae771b1f2db622251480d3a12f1d55d55145403da8d3a7964593e79761b", func := "example.com/raceline/raceline/pkg/race.LawS3782BDrop", spec := "lawS3782BDrop", unfollowed := true, recurses := true, apart := false }
def LawS3782BDropSaid : Prop := lawS3782BDropRow.holds Yba.pinned (OpenSpec.ofChange lawS3782BDropSpec)

/-- ITS FALSE NEIGHBOUR: 'it returns false'. Refute it at one input. -/
def lawS3782BDropWrong : ChangeSpec := { name := "lawS3782BDrop", fn := fun _ => fun
  | [d1, d2, d3] => { results := [.lit (.bool false)], args := [d1, d2, d3] }
  | _ => none }
def LawS3782BDropWrongFalsely : Prop := lawS3782BDropRow.holds Yba.pinned (OpenSpec.ofChange lawS3782BDropWrong)

end Rows
end Go.Proofs.Ybulkbzhm
