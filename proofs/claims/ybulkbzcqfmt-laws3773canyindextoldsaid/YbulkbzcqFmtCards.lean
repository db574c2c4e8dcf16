/-
  DERIVED. GIVEN WITH THE SEED: THE CARDS: each row of YbulkbzcqFmtRows.lean that lists a variable, with what it lists TIED to the program's text (the seventh form; the later family's looks); each row that meets fmt, with fmt's text TOLD by the authors' own Lean function (tested against real Go, not proved from fmt's source: count such statements apart). THE CARD IS WHAT COUNTS. Prove the row's statement (the work); the ties are given (YbulkbzcqFmtTie.lean); close each card by the builder's one call (the guide's Derived/Test/ToyasCard.lean, 'card_holds'). Laid BY PROGRAM, IN A SANDBOX (cutbox-door.mjs). By AI agents, Wed Nov 11 2026. No macro, syntax, notation, axiom, sorry.
-/
import Derived.Test.YbulkbzcqFmtRows
import GoSem.ClaimSeven
namespace Go.Proofs.YbulkbzcqFmt
namespace Rows

/-- THE TOLD CARD OF 'shaping.LawS3773CInRange'. -/
def lawS3773CInRangeCard : Claim7 := { stood := { row := lawS3773CInRangeRow, standIns := [], harness := (true, "a1fe822687f90221fdcb5131419b0b0740fffbb6f380cce0214a2f9917791d84"), looks := false }, told := true, goes := false }
def LawS3773CInRangeToldSaid : Prop := Claim7.holds Ybaf.pinned (.plain (OpenSpec.ofChange lawS3773CInRangeSpec)) lawS3773CInRangeCard
/-- ITS FALSE NEIGHBOUR. Refute it at one input. -/
def LawS3773CInRangeToldWrongFalsely : Prop := Claim7.holds Ybaf.pinned (.plain (OpenSpec.ofChange lawS3773CInRangeWrong)) lawS3773CInRangeCard

/-- THE TOLD CARD OF 'shaping.LawS3773CAnyIndex'. -/
def lawS3773CAnyIndexCard : Claim7 := { stood := { row := lawS3773CAnyIndexRow, standIns := [], harness := (true, "a1fe822687f90221fdcb5131419b0b0740fffbb6f380cce0214a2f9917791d84"), looks := false }, told := true, goes := false }
def LawS3773CAnyIndexToldSaid : Prop := Claim7.holds Ybaf.pinned (.plain (OpenSpec.ofChange lawS3773CAnyIndexSpec)) lawS3773CAnyIndexCard
/-- ITS FALSE NEIGHBOUR. Refute it at one input. -/
def LawS3773CAnyIndexToldWrongFalsely : Prop := Claim7.holds Ybaf.pinned (.plain (OpenSpec.ofChange lawS3773CAnyIndexWrong)) lawS3773CAnyIndexCard
end Rows
end Go.Proofs.YbulkbzcqFmt
