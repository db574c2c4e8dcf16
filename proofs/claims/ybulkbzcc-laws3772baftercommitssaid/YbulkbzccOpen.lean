/-
  FROM AN ARGUMENT'S READING TO 'RowIs': a slice of integers or of bools, nil or not.
-/
import Derived.Test.YbulkbzccRows
import Derived.Test.YbulkbzccMapI
import Derived.ProofKit
import Derived.Deep.Slices
namespace Go.Proofs.Ybulkbzcc
open Go.ChangeShapes Go.WideShapes Go.ChangeAt Go.RowKit Go.Deep

theorem indexAt_one {t e : TypeId} (ht : Yba.prog.underlying t = some (.slice (Yba.prog.elem t))) (he : Yba.prog.elem t = e) (hs : ∀ wx, (sizeOf e).run Yba.prog wx = .ok 1 wx) (a : Addr) (len cap : Nat) (i : Int) (wx : World) (h0 : 0 ≤ i) (h1 : i < (len : Int)) :
    (Instr.indexAt t (.slice (some a) len cap) (.int .i64 i)).run Yba.prog wx = .ok (.pointer (some (a.add i.toNat))) wx := by
  rw [run_indexAt_slice _ _ _ _ _ _ _ ht, if_pos ⟨h0, h1⟩, he, hs]
  simp [Result.andThen]

theorem rowIs_nil {P : Program} {t : TypeId} {w : World} (g : Nat → Value) : RowIs P t w none 0 0 0 0 g :=
  ⟨fun i wx h0 h1 => absurd h1 (by simp; omega), fun i hi => absurd hi (Nat.not_lt_zero i), fun h => absurd h (Nat.lt_irrefl 0)⟩

theorem rowIs_some {t e : TypeId} (ht : Yba.prog.underlying t = some (.slice (Yba.prog.elem t))) (he : Yba.prog.elem t = e) (hs : ∀ wx, (sizeOf e).run Yba.prog wx = .ok 1 wx) {w : World} {a : Addr} {len : Nat} (cap : Nat) {g : Nat → Value}
    (hc : ∀ i, i < len → w.cell? (a.add i) = some (g i)) : ∃ b off, RowIs Yba.prog t w (some a) len cap b off g := by
  by_cases h0 : len = 0
  · subst h0
    exact ⟨0, 0, fun i wx h0 h1 => absurd h1 (by simp; omega), fun i hi => absurd hi (Nat.not_lt_zero i), fun h => absurd h (Nat.lt_irrefl 0)⟩
  · obtain ⟨b, off, spot⟩ := a
    have hsp : spot = none := by simpa [Addr.add] using World.cell?_spot (hc 0 (by omega))
    subst hsp
    refine ⟨b, off, fun i wx h1 h2 => ?_, fun i hi => ?_, fun _ => ?_⟩
    · rw [indexAt_one ht he hs _ _ _ _ _ h1 h2, add_plain]
    · rw [← add_plain]; exact hc i hi
    · have := hc 0 (by omega)
      rw [add_plain] at this
      exact World.block_lt_of_cell? _ _ this

end Go.Proofs.Ybulkbzcc
