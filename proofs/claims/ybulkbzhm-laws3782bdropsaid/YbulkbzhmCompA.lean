/-
  What compacted needs: clear of a tail of sections; an element's store.
-/
import Derived.Test.YbulkbzhmLive
namespace Go.Proofs.Ybulkbzhm
set_option linter.unusedSectionVars false
variable [Base]
open Go.RowKit
open Go.WideShapes (add_plain)

theorem zero_oneCell (n : Nat) : ∀ v ∈ (Builtin.zeroCells #[.int .u64 0, .int .u64 0, .int .u64 0, .pointer none, .int .u32 0, .int .u8 0] n).toList, v.oneCell' = true := by
  intro v hv
  obtain ⟨i, hi, rfl⟩ := List.getElem_of_mem hv
  simp only [Builtin.zeroCells]
  have h6 : i % 6 = 0 ∨ i % 6 = 1 ∨ i % 6 = 2 ∨ i % 6 = 3 ∨ i % 6 = 4 ∨ i % 6 = 5 := by omega
  rcases h6 with h | h | h | h | h | h <;> simp [h, Value.oneCell']

theorem run_clear87 (w : World) (g n m cap sz : Nat) (c : Nat → Value) (hb : Blk w g 87 sz c) (hs : (n + m) * 6 ≤ sz) :
    ∃ w' c', (∀ ty, (Builtin.clear_ #[96] ty #[.slice (some ⟨g, n * 6, none⟩) m cap]).run Yba.prog w = .ok (.tuple #[]) w') ∧ One g w w' ∧ Blk w' g 87 sz c' ∧ ∀ j, j < n * 6 → c' j = c j := by
  by_cases hm : m = 0
  · subst hm
    exact ⟨w, c, fun ty => by simp [Builtin.clear_, run_underlying Yba.underlying96, Result.andThen], One.refl _ _, hb, fun _ _ => rfl⟩
  · obtain ⟨i, hi, hz, hz1, hz2⟩ := info_parts info87
    obtain ⟨hlow, cur, hg, hsz, hc⟩ := hb
    have hst := run_storeCells_at Yba.prog g (n * 6) 87 (Builtin.zeroCells #[.int .u64 0, .int .u64 0, .int .u64 0, .pointer none, .int .u32 0, .int .u8 0] m).toList 0 cur w hg (by simp [size_zeroCells]; omega) (zero_oneCell m)
    have hzl : (Builtin.zeroCells #[.int .u64 0, .int .u64 0, .int .u64 0, .pointer none, .int .u32 0, .int .u8 0] m).toList.length = m * 6 := by simp [size_zeroCells]
    obtain ⟨k, rfl⟩ : ∃ k, m = k + 1 := ⟨m - 1, by omega⟩
    have hr : ∀ ty, (Builtin.clear_ #[96] ty #[.slice (some ⟨g, n * 6, none⟩) (k + 1) cap]).run Yba.prog w = .ok (.tuple #[]) (w.setRow g (cur.toList.take (n * 6 + 0) ++ (Builtin.zeroCells #[.int .u64 0, .int .u64 0, .int .u64 0, .pointer none, .int .u32 0, .int .u8 0] (k + 1)).toList ++ cur.toList.drop (n * 6 + 0 + (Builtin.zeroCells #[.int .u64 0, .int .u64 0, .int .u64 0, .pointer none, .int .u32 0, .int .u8 0] (k + 1)).toList.length)).toArray) := by
      intro ty
      simp [Builtin.clear_, run_underlying Yba.underlying96, zeroValue, typeInfo, hi, hz, hst, Value.cells]
    generalize (Builtin.zeroCells #[.int .u64 0, .int .u64 0, .int .u64 0, .pointer none, .int .u32 0, .int .u8 0] (k + 1)).toList = zs at hr hzl
    refine ⟨_, fun j => if j < n * 6 then c j else (cur.toList.take (n * 6 + 0) ++ zs ++ cur.toList.drop (n * 6 + 0 + zs.length))[j]?.getD undef, hr, ⟨rfl, rfl, rfl, by simp, fun k hk => setRow_other w g k _ hk⟩, ⟨hlow, _, setRow_heap w g cur _ 87 _ hg, ?_, fun j hj => ?_⟩, fun j hj => if_pos hj⟩
    · simp
      omega
    · rw [List.getElem?_toArray]
      dsimp only
      by_cases hj1 : j < n * 6
      · rw [if_pos hj1, ← hc j hj, List.append_assoc, List.getElem?_append_left (by simp; omega), List.getElem?_take, if_pos (by omega)]
        simp
      · rw [if_neg hj1]
        have hl : j < (cur.toList.take (n * 6 + 0) ++ zs ++ cur.toList.drop (n * 6 + 0 + zs.length)).length := by simp; omega
        simp only [List.getElem?_eq_getElem hl, Option.getD_some]

/-- An element's six stores. -/
theorem KRow.elem {w : World} {g n cap : Nat} {K : List Nat} (h : KRow w (.slice (some ⟨g, 0, none⟩) n cap) K) (i kd : Nat) (s : Int) :
    KRow ((((((w.setCell ⟨g, i * 6, none⟩ (.int .u64 s)).setCell ⟨g, i * 6 + 1, none⟩ (.int .u64 0)).setCell ⟨g, i * 6 + 2, none⟩ (.int .u64 0)).setCell ⟨g, i * 6 + 3, none⟩ (.pointer none)).setCell ⟨g, i * 6 + 4, none⟩ (.int .u32 0)).setCell ⟨g, i * 6 + 5, none⟩ (.int .u8 (kd : Int))) (.slice (some ⟨g, 0, none⟩) n cap) (K.set i kd) := by
  refine KRow.kind ?_ i kd
  rcases h with ⟨h, _⟩ | ⟨g', cap', sz, c, hv, h1, h2, h3, h4, h5⟩
  · simp at h
  · simp at hv
    obtain ⟨rfl, hn, rfl⟩ := hv
    refine .inr ⟨g, cap, sz, _, by simp [hn], h1, h2, ((((h3.set _ _).set _ _).set _ _).set _ _).set _ _, h4, fun j hj => ?_⟩
    obtain ⟨⟨s', a0⟩, a1, a2, a3, a4, a5⟩ := h5 j hj
    by_cases e : j = i
    · subst e
      refine ⟨⟨s, ?_⟩, ?_, ?_, ?_, ?_, ?_⟩
      · simp
      · simp
      · simp
      · simp
      · simp
      · simpa using a5
    · have far : ∀ y, y < i * 6 ∨ i * 6 + 6 ≤ y → (if y = i * 6 + 4 then .int .u32 0 else if y = i * 6 + 3 then .pointer none else if y = i * 6 + 2 then .int .u64 0 else if y = i * 6 + 1 then .int .u64 0 else if y = i * 6 then .int .u64 s else c y) = c y := fun y hy =>
        (if_neg (by omega)).trans ((if_neg (by omega)).trans ((if_neg (by omega)).trans ((if_neg (by omega)).trans (if_neg (by omega)))))
      exact ⟨⟨s', (far _ (by omega)).trans a0⟩, (far _ (by omega)).trans a1, (far _ (by omega)).trans a2, (far _ (by omega)).trans a3, (far _ (by omega)).trans a4, (far _ (by omega)).trans a5⟩

#print axioms KRow.elem
end Go.Proofs.Ybulkbzhm
