/-
  THE STORE IN MEMORY (inside the log's block L, cells 3 to 7), and: held.
-/
import Derived.Test.YbulkbzccDrop
import Derived.BigQuiet
import Derived.Deep.QuietTactic
import Derived.Deep.RegionWith
namespace Go.Proofs.Ybulkbzcc
open Go.RowKit
open Go.WideShapes (add_plain)

theorem info105 : (Yba.prog.info? 105).map (fun i => (i.zero, i.size, i.bytes)) = some (some (.agg #[.int .i64 0, .int .i64 0]), 2, 16) := by kernel_rfl

/-- The element types of the blocks that the store's methods may turn. -/
def Es (e : TypeId) : Prop := e = 75 ∨ e = 94 ∨ e = 79 ∨ e = 105

structure StoreC (w : World) (X : Nat → Prop) (L K n : Nat) (c : Nat → Value) (lat : Nat → Int) (cnt : Nat → Nat) (nq : Nat) (qi : Nat → Nat) : Prop where
  blk : Blk w L 75 15 c
  nX : ¬ X L
  c3 : c 3 = .slice (some ⟨K, 0, none⟩) (n + 1) (n + 1)
  kept : KeptOK w X K n lat cnt
  c5 : c 5 = .slice none 0 0
  c6 : ∃ a, c 6 = .int .i64 a
  c7 : ∃ a, c 7 = .int .i64 a
  queue : ∃ x, SliceIs w 105 2 (c 4) nq x ∧ ∀ j, j < nq → qi j ≤ n ∧ (∃ num : Int, num < 9223372036854775807 ∧ x (j * 2) = .int .i64 num) ∧ x (j * 2 + 1) = .int .i64 (qi j : Int)
  qX : ∀ g, (c 4).ownBlock = some g → ¬ X g

set_option maxRecDepth 100000 in
theorem held_any (L n l : Nat) (a0 a1 : Option Addr) (cp0 cp1 : Nat) (w : World) (g3 : w.cell? ⟨L, 3, none⟩ = some (.slice a0 (n + 1) cp0)) (g4 : w.cell? ⟨L, 4, none⟩ = some (.slice a1 l cp1)) (hn : n ≤ 100000) (hl : l ≤ 1000000) :
    Calls Yba.prog 34 #[.pointer (some ⟨L, 3, none⟩)] w fun e w' => e = .returned (.int .i64 ((n : Int) + l)) ∧ ∃ m, w' = w.drewN m := by
  go_enter Yba.func34, Yba.ntmps34
  go_wp2
  go_quiet (fail)
  go_wp2
  go_ret
  exact ⟨by simp, _, rfl⟩

#print axioms held_any
end Go.Proofs.Ybulkbzcc
