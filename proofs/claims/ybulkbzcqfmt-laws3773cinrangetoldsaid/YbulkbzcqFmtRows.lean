/-
  No cell of these rows narrows 'for every input' (looked for: loops, veiled, ifaces, maps, wideKeys, modest, calm, conditions, laid).
  DERIVED. THE GIVEN ROWS OF THIS SEAT. 2 by the template 'for every input the law returns true; each argument reads behind the call as it read before'; 0 by the template 'total and deterministic' (their statements: YbulkbzcqFmtTotals.lean).
  GIVEN WITH THE SEED: the statements are not yours to turn. If you find one false, say at which input.
  Laid BY PROGRAM, IN A SANDBOX (cutbox-rows.mjs): the forced cells as the released guide's own fill.sh prints them over the translation 2a5953068cd17872… (all of the seat's roots in one cut). By AI agents, Wed Nov 11 2026. No macro, syntax, notation, axiom, sorry.
-/
import Derived.Test.YbulkbzcqFmtChecked
import GoSem.Claim
import GoSem.ClaimJoined
import GoSem.ClaimMapViews
import Derived.JoinedTies
import Derived.KernelRfl
namespace Go.Proofs.YbulkbzcqFmt
/- THE CELL 'sum', in the pinned program and in every row, IS THE sha256 OF THE DUMP (.gsa) THAT YbulkbzcqFmtProg.lean LOADS. Nothing in Lean hashes anything: it is a label: what it is worth is what the hold of that sum in a sandbox is worth. -/
noncomputable def Ybaf.pinned : Pinned := { name := "ybulkbzcqfmt", sum := "2a5953068cd17872689b16c333cbec4f30ff0b0e5a6a3a757efd0a82f8f8322f", checked := Ybaf.checked }
namespace Rows
def none {H : Type} : Left H := { results := [], args := [] }

/-- 'shaping.LawS3773CInRange': WHATEVER THE INPUT: true; the input reads as it did. -/
def lawS3773CInRangeSpec : ChangeSpec := { name := "lawS3773CInRange", fn := fun _ => fun
  | [d1, d2, d3] => { results := [.lit (.bool true)], args := [d1, d2, d3] }
  | _ => none }
def lawS3773CInRangeRow : OpenClaim := { program := "ybulkbzcqfmt", sum := "2a5953068cd17872689b16c333cbec4f30ff0b0e5a6a3a757efd0a82f8f8322f", func := "example.com/sequora/sequora/internal/shaping.LawS3773CInRange", spec := "lawS3773CInRange", stops := ["fmt.Sprintf"], inPlace := ["fmt.Sprintf"], apart := false }
/-- NO THEOREM (fmt's text is open here; it may be false): for the released tool's asking of the row's closed facts alone. THE STATEMENT IS 'LawS3773CInRangeToldSaid' (YbulkbzcqFmtCards.lean). -/
def LawS3773CInRangeFormAsk : Prop := lawS3773CInRangeRow.holds Ybaf.pinned (OpenSpec.ofChange lawS3773CInRangeSpec)

/-- ITS FALSE NEIGHBOUR: 'it returns false'. Refute it at one input. -/
def lawS3773CInRangeWrong : ChangeSpec := { name := "lawS3773CInRange", fn := fun _ => fun
  | [d1, d2, d3] => { results := [.lit (.bool false)], args := [d1, d2, d3] }
  | _ => none }
def LawS3773CInRangeWrongFormAsk : Prop := lawS3773CInRangeRow.holds Ybaf.pinned (OpenSpec.ofChange lawS3773CInRangeWrong)

/-- 'shaping.LawS3773CAnyIndex': WHATEVER THE INPUT: true; the input reads as it did. -/
def lawS3773CAnyIndexSpec : ChangeSpec := { name := "lawS3773CAnyIndex", fn := fun _ => fun
  | [d1, d2, d3] => { results := [.lit (.bool true)], args := [d1, d2, d3] }
  | _ => none }
def lawS3773CAnyIndexRow : OpenClaim := { program := "ybulkbzcqfmt", sum := "2a5953068cd17872689b16c333cbec4f30ff0b0e5a6a3a757efd0a82f8f8322f", func := "example.com/sequora/sequora/internal/shaping.LawS3773CAnyIndex", spec := "lawS3773CAnyIndex", stops := ["fmt.Sprintf"], inPlace := ["fmt.Sprintf"], apart := false }
/-- NO THEOREM (fmt's text is open here; it may be false): for the released tool's asking of the row's closed facts alone. THE STATEMENT IS 'LawS3773CAnyIndexToldSaid' (YbulkbzcqFmtCards.lean). -/
def LawS3773CAnyIndexFormAsk : Prop := lawS3773CAnyIndexRow.holds Ybaf.pinned (OpenSpec.ofChange lawS3773CAnyIndexSpec)

/-- ITS FALSE NEIGHBOUR: 'it returns false'. Refute it at one input. -/
def lawS3773CAnyIndexWrong : ChangeSpec := { name := "lawS3773CAnyIndex", fn := fun _ => fun
  | [d1, d2, d3] => { results := [.lit (.bool false)], args := [d1, d2, d3] }
  | _ => none }
def LawS3773CAnyIndexWrongFormAsk : Prop := lawS3773CAnyIndexRow.holds Ybaf.pinned (OpenSpec.ofChange lawS3773CAnyIndexWrong)

end Rows
end Go.Proofs.YbulkbzcqFmt
