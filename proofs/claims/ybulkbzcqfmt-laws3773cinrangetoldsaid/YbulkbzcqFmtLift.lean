/-
  The two walks for every slice, and the program's closed facts.
-/
import Derived.Test.YbulkbzcqFmtWalk
import Derived.Deep.Strs
import Derived.ProofKit
import Derived.Carry
import Derived.ChangeMaps5
import Derived.Stop.JoinedAt
import Derived.Stop.Texts
import Derived.Stop.JoinedTold
namespace Go.Proofs.YbulkbzcqFmt
open Go.RowKit Go.Extern.Stop Go.Stop Go.Extern

theorem Ybaf.own : ownKnob Ybaf.prog.godebug = none := by kernel_rfl
theorem Ybaf.laidOut : laidOutB Ybaf.pinned.checked.prog = true := by kernel_rfl
theorem Ybaf.stops : Ybaf.pinned.checked.prog.stops = ["fmt.Sprintf"] := by kernel_rfl
theorem Ybaf.stopKnobs : Ybaf.pinned.checked.prog.stopKnobs = [] := by kernel_rfl
theorem Ybaf.quiet (os : Os) : Stop.quiet Ybaf.pinned.checked.prog os := by
  intro k hk
  rw [Ybaf.stopKnobs] at hk
  cases hk
theorem Ybaf.cells9 : Ybaf.prog.cellsOf 9 = 1 := by kernel_rfl

theorem Any_all (F : Interp) (a : Option Addr) (n c : Nat) (i : Int) (nm : ByteArray) (w : World) (hF : F.answers w.tape) (_ : (Lit.int .i64 i).wf = true) (_ : n ≤ 9223372036854775807)
    (hc : ∀ i, i < n → ∃ b off y, a = some ⟨b, off, none⟩ ∧ w.cell? ⟨b, off + i, none⟩ = some (.string y)) :
    Calls Ybaf.prog 4 #[.slice a n c, .int .i64 i, .string nm] w fun e w' => e = .returned (.bool true) ∧ Below w.heap.size w w' := by
  by_cases hn : 1024 < n
  · exact any_long a n c i nm w hn
  · by_cases hi : i < 0 ∨ (n : Int) ≤ i
    · exact any_out F a n c i nm w hF (by omega) hi
    · obtain ⟨k, rfl⟩ : ∃ k : Nat, i = k := ⟨i.toNat, by omega⟩
      obtain ⟨b, off, y, rfl, hy⟩ := hc k (by omega)
      exact any_in b off n c k nm y w (by omega) (by omega) hy

theorem Range_all (F : Interp) (a : Option Addr) (n c : Nat) (x : Int) (nm : ByteArray) (w : World) (hF : F.answers w.tape) (hx : (Lit.int .u64 x).wf = true) (_ : n ≤ 9223372036854775807)
    (hc : ∀ i, i < n → ∃ b off y, a = some ⟨b, off, none⟩ ∧ w.cell? ⟨b, off + i, none⟩ = some (.string y)) :
    Calls Ybaf.prog 3 #[.slice a n c, .int .u64 x, .string nm] w fun e w' => e = .returned (.bool true) ∧ Below w.heap.size w w' := by
  have hx0 : 0 ≤ x := by
    have := hx
    simp [Lit.wf, IntKind.min, IntKind.max, IntKind.signed, IntKind.bits] at this
    omega
  obtain ⟨k, rfl⟩ : ∃ k : Nat, x = k := ⟨x.toNat, by omega⟩
  by_cases hn : 1024 < n
  · exact range_long a n c k nm w hn
  · by_cases h0 : n = 0
    · subst h0
      exact range_none F a c k nm w hF
    · have hm : k % n < n := Nat.mod_lt _ (by omega)
      obtain ⟨b, off, y, rfl, hy⟩ := hc (k % n) hm
      exact range_in b off n c k nm y w (by omega) (by omega) hy

end Go.Proofs.YbulkbzcqFmt
