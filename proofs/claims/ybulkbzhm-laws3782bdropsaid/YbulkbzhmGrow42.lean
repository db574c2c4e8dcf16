/-
  slices.Grow of a row of numbers.
-/
import Derived.Test.YbulkbzhmUpdate
namespace Go.Proofs.Ybulkbzhm
set_option linter.unusedSectionVars false
variable [Base]
open Go.RowKit
open Go.WideShapes (add_plain)

theorem info70 : (Yba.prog.info? 70).map (fun i => (i.zero, i.size, i.bytes)) = some (some (.int .u64 0), 1, 8) := by kernel_rfl

theorem zeros_u64 (n j : Nat) (h : j < n) : (Builtin.zeroCells #[.int .u64 0] n)[j]? = some (.int .u64 0) := by
  have : j % 1 = 0 := by omega
  simp [Builtin.zeroCells, h, this]

/-- A new array: old numbers, then noughts. -/
theorem zblk (w : World) (hB : Base.n ≤ w.heap.size) (olds : Array Value) (x : Nat → Int) (m n cap : Nat) (ho : olds.size = m) (hx : ∀ j, j < m → olds[j]? = some (.int .u64 (x j))) (hc : m + n ≤ cap) :
    U64s (w.alloc (.cells (olds ++ Builtin.zeroCells #[.int .u64 0] n ++ Builtin.zeroCells #[.int .u64 0] (cap - (m + n))) 70)) w.heap.size cap := by
  refine ⟨fun j => if j < m then x j else 0, Blk.new w _ 70 hB ?_ fun j hj => ?_⟩
  · simp only [Array.size_append, size_zeroCells, ho]
    simp
    omega
  · by_cases h1 : j < m
    · rw [Array.getElem?_append_left (by simp [size_zeroCells, ho]; omega), Array.getElem?_append_left (by omega), hx j h1]
      simp [h1]
    · by_cases h2 : j < m + n
      · rw [Array.getElem?_append_left (by simp [size_zeroCells, ho]; omega), Array.getElem?_append_right (by omega), ho, zeros_u64 _ _ (by omega)]
        simp [h1]
      · rw [Array.getElem?_append_right (by simp [size_zeroCells, ho]; omega), zeros_u64 _ _ (by simp [size_zeroCells, ho]; omega)]
        simp [h1]

theorem run_appendZ_nil (w : World) (hB : Base.n ≤ w.heap.size) (n : Nat) (ty : TypeId) (h0 : 0 < n) (hn : n ≤ 1000000) : ∃ cap, n ≤ cap ∧ cap ≤ maxLen ∧ ∃ w', (Builtin.append_ #[97, 3] ty #[.slice none 0 0, .int .i64 (n : Int)]).run Yba.prog w = .ok (.slice (some ⟨w.heap.size, 0, none⟩) n cap) w' ∧ U64s w' w.heap.size cap ∧ Below w.heap.size w w' ∧ w'.heap.size = w.heap.size + 1 := by
  obtain ⟨i, hi, hz, hs, hb⟩ := info_parts info70
  refine ⟨grownCap w n 0 70, grownCap_ge w n 0 70, grownCap_le_maxLen w n 0 70 (by unfold maxLen; omega), w.drew.alloc (.cells (#[] ++ Builtin.zeroCells #[.int .u64 0] n ++ Builtin.zeroCells #[.int .u64 0] (grownCap w n 0 70 - (0 + n))) 70), ?_, ?_, (Below.refl _ _).drew.alloc (Nat.le_refl _) _, by simp⟩
  · have hn0 : n ≠ 0 := by omega
    have e1 : IntKind.i64.wrap (n : Int) = (n : Int) := by rw [IntKind.wrap_i64]; omega
    have h63' : ¬ (9223372036854775807 < (n : Int)) := by omega
    have h48' : ¬ (281474976710656 < Builtin.nextslicecap n 0 * 8) := by rw [nextslicecap_zero h0]; omega
    have h8 : ¬ ((281474976710656 : Int) < (n : Int) * 8) := by omega
    have hneg : ¬ ((n : Int) < 0) := by omega
    have hmx : max (n : Int) 0 = n := by omega
    simp [Builtin.append_, asInt, asIntOf, hneg, hmx, run_underlying Yba.underlying97, run_underlying Yba.underlying3, sizeOf, typeInfo, zeroValue, hi, hz, hs, hb, e1, hn0, h63', h48', h8, Question.forced, run_firstCells_none, newRow, grownCap, Value.cells]
  · exact zblk w.drew hB #[] (fun _ => 0) 0 n _ rfl (fun j hj => by omega) (by have := grownCap_ge w n 0 70; omega)

theorem run_appendZ (w : World) (g m n sz : Nat) (ty : TypeId) (hu : U64s w g sz) (hm : m ≤ sz) (h0 : 0 < n) (hn : m + n ≤ 1000000) : ∃ cap, m + n ≤ cap ∧ cap ≤ maxLen ∧ ∃ w', (Builtin.append_ #[97, 3] ty #[.slice (some ⟨g, 0, none⟩) m m, .int .i64 (n : Int)]).run Yba.prog w = .ok (.slice (some ⟨w.heap.size, 0, none⟩) (m + n) cap) w' ∧ U64s w' w.heap.size cap ∧ Below w.heap.size w w' ∧ w'.heap.size = w.heap.size + 1 := by
  obtain ⟨i, hi, hz, hs, hb⟩ := info_parts info70
  obtain ⟨x, hx⟩ := hu
  refine ⟨grownCap w (m + n) m 70, grownCap_ge w (m + n) m 70, grownCap_le_maxLen w (m + n) m 70 (by unfold maxLen; omega), w.drew.alloc (.cells (((List.range m).map fun j => Value.int .u64 (x j)).toArray ++ Builtin.zeroCells #[.int .u64 0] n ++ Builtin.zeroCells #[.int .u64 0] (grownCap w (m + n) m 70 - (m + n))) 70), ?_, ?_, (Below.refl _ _).drew.alloc (Nat.le_refl _) _, by simp⟩
  · have hn0 : n ≠ 0 := by omega
    have e1 : IntKind.i64.wrap (n : Int) = (n : Int) := by rw [IntKind.wrap_i64]; omega
    have h63' : ¬ (9223372036854775807 < (m : Int) + (n : Int)) := by omega
    have h48' : ¬ (281474976710656 < Builtin.nextslicecap (m + n) m * 8) := by have := growslice_fits (need := m + n) (old := m) (bytes := 8) (by omega) (by omega); omega
    have h8 : ¬ ((281474976710656 : Int) < (n : Int) * 8) := by omega
    have hneg : ¬ ((n : Int) < 0) := by omega
    have hmx : max (n : Int) 0 = n := by omega
    have hfo := run_firstCells_some (P := Yba.prog) w.drew 1 m ⟨g, 0, none⟩ m m ((List.range m).map fun j => Value.int .u64 (x j)) (by simp) (fun j u hu => by
      obtain ⟨hj, rfl⟩ := news_get (fun j => Value.int .u64 (x j)) m j u hu
      rw [add_plain, Nat.zero_add]
      exact hx.cell (by omega))
    simp [Builtin.append_, asInt, asIntOf, hneg, hmx, run_underlying Yba.underlying97, run_underlying Yba.underlying3, sizeOf, typeInfo, zeroValue, hi, hz, hs, hb, e1, hn0, h63', h48', h8, Question.forced, hfo, newRow, grownCap, Value.cells]
    intro h
    omega
  · exact zblk w.drew hx.room _ x m n _ (by simp) (fun j hj => by simp [hj]) (grownCap_ge w (m + n) m 70)

#print axioms run_appendZ
end Go.Proofs.Ybulkbzhm
