/-
  No cell of these rows narrows 'for every input' (looked for: loops, veiled, ifaces, maps, wideKeys, modest, calm, conditions, laid).
  DERIVED. THE GIVEN ROWS OF THIS SEAT. 4 by the template 'for every input the law returns true; each argument reads behind the call as it read before'; 0 by the template 'total and deterministic' (their statements: YbulkbzccTotals.lean).
  GIVEN WITH THE SEED: the statements are not yours to turn. If you find one false, say at which input.
  Laid BY PROGRAM, IN A SANDBOX (cutbox-rows.mjs): the forced cells as the released guide's own fill.sh prints them over the translation b776df24eeaa5617… (all of the seat's roots in one cut). By AI agents, Wed Nov 11 2026. No macro, syntax, notation, axiom, sorry.
-/
import Derived.Test.YbulkbzccChecked
import GoSem.Claim
import GoSem.ClaimJoined
import GoSem.ClaimMapViews
import Derived.JoinedTies
import Derived.KernelRfl
namespace Go.Proofs.Ybulkbzcc
/- THE CELL 'sum', in the pinned program and in every row, IS THE sha256 OF THE DUMP (.gsa) THAT YbulkbzccProg.lean LOADS. Nothing in Lean hashes anything: it is a label: what it is worth is what the hold of that sum in a sandbox is worth. -/
noncomputable def Yba.pinned : Pinned := { name := "ybulkbzcc", sum := "b776df24eeaa5617ac8f8b14da472283f82826aed167e6f59f67c108e3683151", checked := Yba.checked }
namespace Rows
def none {H : Type} : Left H := { results := [], args := [] }

/-- 'validation.LawS3772BFresh': WHATEVER THE INPUT: true; the input reads as it did. -/
def lawS3772BFreshSpec : ChangeSpec := { name := "lawS3772BFresh", fn := fun _ => fun
  | [d1, d2, d3] => { results := [.lit (.bool true)], args := [d1, d2, d3] }
  | _ => none }
def lawS3772BFreshRow : OpenClaim := { program := "ybulkbzcc", sum := "b776df24eeaa5617ac8f8b14da472283f82826aed167e6f59f67c108e3683151", func := "example.com/tidelock/tidelock/internal/validation.LawS3772BFresh", spec := "lawS3772BFresh", apart := false }
def LawS3772BFreshSaid : Prop := lawS3772BFreshRow.holds Yba.pinned (OpenSpec.ofChange lawS3772BFreshSpec)

/-- ITS FALSE NEIGHBOUR: 'it returns false'. Refute it at one input. -/
def lawS3772BFreshWrong : ChangeSpec := { name := "lawS3772BFresh", fn := fun _ => fun
  | [d1, d2, d3] => { results := [.lit (.bool false)], args := [d1, d2, d3] }
  | _ => none }
def LawS3772BFreshWrongFalsely : Prop := lawS3772BFreshRow.holds Yba.pinned (OpenSpec.ofChange lawS3772BFreshWrong)

/-- 'validation.LawS3772BAfterCommits': WHATEVER THE INPUT: true; the input reads as it did. -/
def lawS3772BAfterCommitsSpec : ChangeSpec := { name := "lawS3772BAfterCommits", fn := fun _ => fun
  | [d1, d2, d3] => { results := [.lit (.bool true)], args := [d1, d2, d3] }
  | _ => none }
def lawS3772BAfterCommitsRow : OpenClaim := { program := "ybulkbzcc", sum := "b776df24eeaa5617ac8f8b14da472283f82826aed167e6f59f67c108e3683151", func := "example.com/tidelock/tidelock/internal/validation.LawS3772BAfterCommits", spec := "lawS3772BAfterCommits", apart := false }
def LawS3772BAfterCommitsSaid : Prop := lawS3772BAfterCommitsRow.holds Yba.pinned (OpenSpec.ofChange lawS3772BAfterCommitsSpec)

/-- ITS FALSE NEIGHBOUR: 'it returns false'. Refute it at one input. -/
def lawS3772BAfterCommitsWrong : ChangeSpec := { name := "lawS3772BAfterCommits", fn := fun _ => fun
  | [d1, d2, d3] => { results := [.lit (.bool false)], args := [d1, d2, d3] }
  | _ => none }
def LawS3772BAfterCommitsWrongFalsely : Prop := lawS3772BAfterCommitsRow.holds Yba.pinned (OpenSpec.ofChange lawS3772BAfterCommitsWrong)

/-- 'reader.LawS3772CModel': WHATEVER THE INPUT: true; the input reads as it did. -/
def lawS3772CModelSpec : ChangeSpec := { name := "lawS3772CModel", fn := fun _ => fun
  | [d1, d2, d3, d4, d5] => { results := [.lit (.bool true)], args := [d1, d2, d3, d4, d5] }
  | _ => none }
def lawS3772CModelRow : OpenClaim := { program := "ybulkbzcc", sum := "b776df24eeaa5617ac8f8b14da472283f82826aed167e6f59f67c108e3683151", func := "example.com/tidelock/tidelock/internal/reader.LawS3772CModel", spec := "lawS3772CModel", apart := false }
def LawS3772CModelSaid : Prop := lawS3772CModelRow.holds Yba.pinned (OpenSpec.ofChange lawS3772CModelSpec)

/-- ITS FALSE NEIGHBOUR: 'it returns false'. Refute it at one input. -/
def lawS3772CModelWrong : ChangeSpec := { name := "lawS3772CModel", fn := fun _ => fun
  | [d1, d2, d3, d4, d5] => { results := [.lit (.bool false)], args := [d1, d2, d3, d4, d5] }
  | _ => none }
def LawS3772CModelWrongFalsely : Prop := lawS3772CModelRow.holds Yba.pinned (OpenSpec.ofChange lawS3772CModelWrong)

/-- 'reader.LawS3772CReports': WHATEVER THE INPUT: true; the input reads as it did. -/
def lawS3772CReportsSpec : ChangeSpec := { name := "lawS3772CReports", fn := fun _ => fun
  | [d1, d2, d3, d4] => { results := [.lit (.bool true)], args := [d1, d2, d3, d4] }
  | _ => none }
def lawS3772CReportsRow : OpenClaim := { program := "ybulkbzcc", sum := "b776df24eeaa5617ac8f8b14da472283f82826aed167e6f59f67c108e3683151", func := "example.com/tidelock/tidelock/internal/reader.LawS3772CReports", spec := "lawS3772CReports", apart := false }
def LawS3772CReportsSaid : Prop := lawS3772CReportsRow.holds Yba.pinned (OpenSpec.ofChange lawS3772CReportsSpec)

/-- ITS FALSE NEIGHBOUR: 'it returns false'. Refute it at one input. -/
def lawS3772CReportsWrong : ChangeSpec := { name := "lawS3772CReports", fn := fun _ => fun
  | [d1, d2, d3, d4] => { results := [.lit (.bool false)], args := [d1, d2, d3, d4] }
  | _ => none }
def LawS3772CReportsWrongFalsely : Prop := lawS3772CReportsRow.holds Yba.pinned (OpenSpec.ofChange lawS3772CReportsWrong)

end Rows
end Go.Proofs.Ybulkbzcc
