/-
  The walk of nameOf (func 5), for every F.
-/
import Derived.Test.YbulkbzcqFmtRows
import Derived.Test.YbulkbzcqFmtFacts
import Derived.WalkKit
import Derived.WalkSpells
namespace Go.Proofs.YbulkbzcqFmt
open Go.RowKit Go.Extern.Stop Go.Stop Go.Extern

/-- What fmt is asked. -/
def reading (nm : List UInt8) (i : Int) : List (List UInt8) :=
  [[37, 115, 40, 37, 100, 41], Ybaf.shape9, FmtStop.pack nm, Ybaf.shape3, digits 8 (i % 18446744073709551616).toNat]

set_option maxHeartbeats 800000 in
theorem nameOf_out (F : Interp) (a : Option Addr) (n c : Nat) (i : Int) (nm : ByteArray) (w : World) (hF : F.answers w.tape) (hi : i < 0 ∨ (n : Int) ≤ i) :
    Calls Ybaf.prog 5 #[.slice a n c, .int .i64 i, .string nm] w fun e w' => e = .returned (.string (FmtStop.textOf (F "fmt.Sprintf" (reading nm.data.toList i) 0))) ∧
      w' = (w.alloc (.cells #[.iface 9 (.string nm), .iface 3 (.int .i64 i)] 20)).drew := by
  have hF' := answers_open hF
  go_enter Ybaf.func5, Ybaf.ntmps5
  go_wp2
  all_goals first
    | (go_ret; exact ⟨rfl, rfl⟩)
    | (exfalso; omega)
    | skip

set_option maxHeartbeats 800000 in
theorem nameOf_in (b off n c : Nat) (i : Nat) (nm x : ByteArray) (w : World) (hi : i < n) (hc : w.cell? ⟨b, off + i, none⟩ = some (.string x)) :
    Calls Ybaf.prog 5 #[.slice (some ⟨b, off, none⟩) n c, .int .i64 i, .string nm] w fun e w' => e = .returned (.string x) ∧ w' = w := by
  go_enter Ybaf.func5, Ybaf.ntmps5
  go_wp2
  all_goals first
    | (go_ret; exact ⟨rfl, rfl⟩)
    | (exfalso; omega)
    | skip

end Go.Proofs.YbulkbzcqFmt
