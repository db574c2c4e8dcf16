/-
  The walks of the two laws, for every F.
-/
import Derived.Test.YbulkbzcqFmtName
import Derived.BigQuiet
import Derived.Deep.QuietTactic
import Derived.Deep.RegionWith
namespace Go.Proofs.YbulkbzcqFmt
open Go.RowKit Go.Extern.Stop Go.Stop Go.Extern

set_option maxHeartbeats 800000 in
theorem any_long (a : Option Addr) (n c : Nat) (i : Int) (nm : ByteArray) (w : World) (hn : 1024 < n) :
    Calls Ybaf.prog 4 #[.slice a n c, .int .i64 i, .string nm] w fun e w' => e = .returned (.bool true) ∧ Below w.heap.size w w' := by
  go_enter Ybaf.func4, Ybaf.ntmps4
  go_wp2
  all_goals first
    | (go_ret; exact ⟨rfl, Below.refl _ _⟩)
    | (exfalso; omega)
    | skip

set_option maxHeartbeats 800000 in
theorem any_out (F : Interp) (a : Option Addr) (n c : Nat) (i : Int) (nm : ByteArray) (w : World) (hF : F.answers w.tape) (hn : n ≤ 1024) (hi : i < 0 ∨ (n : Int) ≤ i) :
    Calls Ybaf.prog 4 #[.slice a n c, .int .i64 i, .string nm] w fun e w' => e = .returned (.bool true) ∧ Below w.heap.size w w' := by
  go_enter Ybaf.func4, Ybaf.ntmps4
  go_wp2_with fail
  all_goals try (exfalso; omega)
  refine (nameOf_out F a n c i nm w hF hi).mono ?_
  rintro e w' ⟨rfl, rfl⟩
  go_wp2
  all_goals first
    | (go_ret; exact ⟨rfl, ((Below.refl _ _).alloc (Nat.le_refl _) _).drew⟩)
    | (exfalso; omega)
    | skip

set_option maxHeartbeats 800000 in
theorem any_in (b off n c : Nat) (i : Nat) (nm x : ByteArray) (w : World) (hn : n ≤ 1024) (hi : i < n) (hc : w.cell? ⟨b, off + i, none⟩ = some (.string x)) :
    Calls Ybaf.prog 4 #[.slice (some ⟨b, off, none⟩) n c, .int .i64 i, .string nm] w fun e w' => e = .returned (.bool true) ∧ Below w.heap.size w w' := by
  go_enter Ybaf.func4, Ybaf.ntmps4
  go_wp2_with fail
  all_goals try (exfalso; omega)
  refine (nameOf_in b off n c i nm x w hi hc).mono ?_
  rintro e w' ⟨rfl, rfl⟩
  go_wp2
  all_goals first
    | (go_ret; exact ⟨by simp, Below.refl _ _⟩)
    | (exfalso; omega)
    | skip

set_option maxHeartbeats 800000 in
theorem range_long (a : Option Addr) (n c : Nat) (x : Int) (nm : ByteArray) (w : World) (hn : 1024 < n) :
    Calls Ybaf.prog 3 #[.slice a n c, .int .u64 x, .string nm] w fun e w' => e = .returned (.bool true) ∧ Below w.heap.size w w' := by
  go_enter Ybaf.func3, Ybaf.ntmps3
  go_wp2
  all_goals first
    | (go_ret; exact ⟨rfl, Below.refl _ _⟩)
    | (exfalso; omega)
    | skip

set_option maxHeartbeats 800000 in
theorem range_none (F : Interp) (a : Option Addr) (c : Nat) (x : Nat) (nm : ByteArray) (w : World) (hF : F.answers w.tape) :
    Calls Ybaf.prog 3 #[.slice a 0 c, .int .u64 x, .string nm] w fun e w' => e = .returned (.bool true) ∧ Below w.heap.size w w' := by
  go_enter Ybaf.func3, Ybaf.ntmps3
  go_wp2_with fail
  all_goals try (exfalso; omega)
  refine (nameOf_out F a 0 c ((x % 8 : Nat) : Int) nm w hF (by omega)).mono ?_
  rintro e w' ⟨rfl, rfl⟩
  go_wp2
  all_goals first
    | (go_ret; exact ⟨rfl, ((Below.refl _ _).alloc (Nat.le_refl _) _).drew⟩)
    | (exfalso; omega)
    | skip

set_option maxHeartbeats 1600000 in
theorem range_in (b off n c : Nat) (x : Nat) (nm y : ByteArray) (w : World) (hn : n ≤ 1024) (hn0 : 0 < n) (hc : w.cell? ⟨b, off + x % n, none⟩ = some (.string y)) :
    Calls Ybaf.prog 3 #[.slice (some ⟨b, off, none⟩) n c, .int .u64 x, .string nm] w fun e w' => e = .returned (.bool true) ∧ Below w.heap.size w w' := by
  go_enter Ybaf.func3, Ybaf.ntmps3
  have hm : x % n < n := Nat.mod_lt _ hn0
  have hmI : (x : Int) % (n : Int) < (n : Int) := by omega
  have hm0 : 0 ≤ (x : Int) % (n : Int) := by omega
  have hi : wrap64 ((x : Int) % (n : Int)) = ((x % n : Nat) : Int) := by
    have e : ((x % n : Nat) : Int) = (x : Int) % (n : Int) := Int.natCast_emod _ _
    rw [e]
    unfold wrap64
    omega
  go_wp2_with fail
  all_goals try (exfalso; omega)
  try simp only [hi]
  have hmI' : ((x % n : Nat) : Int) < (n : Int) := by omega
  have hcr : ∀ q, (w.drewN q).cell? ⟨b, off + x % n, none⟩ = some (.string y) := fun q => hc
  go_quiet (first | (go_at_call 5; exact Calls.quiet_of_same (nameOf_in b off n c (x % n) nm y _ hm (hcr _))))
  go_wp2
  all_goals first
    | (go_ret; exact ⟨by simp, ⟨rfl, rfl, rfl, Nat.le_refl _, fun _ _ => rfl⟩⟩)
    | (exfalso; omega)
    | skip

end Go.Proofs.YbulkbzcqFmt
