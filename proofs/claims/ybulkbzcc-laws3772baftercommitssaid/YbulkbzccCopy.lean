import Derived.Test.YbulkbzccApp2
namespace Go.Proofs.Ybulkbzcc
open Go.RowKit
open Go.WideShapes (add_plain)

/-- copy(dst, src), both of n elements, dst a whole row of the call's own. -/
theorem run_copy_full {P : Program} (w : World) (dT sT ty elem e : TypeId) {s : Nat} (hu : P.underlying dT = some (.slice elem)) (hs : (P.info? elem).map (·.size) = some s) (g n dc sc : Nat) (src : Option Addr) (c px : Nat → Value) (hb : Blk w g e (n * s) c)
    (hsrc : n = 0 ∨ ∃ a, src = some a ∧ ∀ j, j < n * s → w.cell? (a.add j) = some (px j)) (h1 : ∀ j, j < n * s → (px j).oneCell' = true) :
    ∃ w', (Builtin.copy_ #[dT, sT] ty #[.slice (some ⟨g, 0, none⟩) n dc, .slice src n sc]).run P w = .ok (goInt n) w' ∧ Blk w' g e (n * s) px ∧ w.grownBy w' (some g) ∧ w'.heap.size = w.heap.size := by
  cases hq : P.info? elem with
  | none => simp [hq] at hs
  | some i =>
    have hi : i.size = s := by simpa [hq] using hs
    rcases hsrc with rfl | ⟨a, rfl, hcell⟩
    · refine ⟨w, ?_, hb.congr (fun j hj => by omega), World.grownBy.refl _ _, rfl⟩
      cases src <;> simp [Builtin.copy_, run_underlying hu, Builtin.lenOf, Builtin.firstCells, sizeOf, typeInfo, hq, loadCells, loadCellsFrom, storeCells]
    · obtain ⟨cur, hg, hsz, hc⟩ := hb
      have hl := run_loadCells_list (P := P) w a ((List.range (n * s)).map px) (fun j u hu => by
        obtain ⟨hj, rfl⟩ := news_get _ _ _ _ hu
        exact hcell j hj)
      have hst := run_storeCells_at P g 0 e ((List.range (n * s)).map px) 0 cur w hg (by simp; omega) (fun u hu => by
        simp at hu
        obtain ⟨j, hj, rfl⟩ := hu
        exact h1 j hj)
      simp only [List.length_map, List.length_range] at hl hst
      refine ⟨w.setRow g ((List.range (n * s)).map px).toArray, ?_, ⟨((List.range (n * s)).map px).toArray, setRow_heap w g cur _ e _ hg, ?_, fun j hj => ?_⟩, ⟨rfl, rfl, rfl, by simp, fun k _ hk => setRow_other w g k _ (fun e => hk (by rw [e]))⟩, by simp⟩
      · have e1 : cur.toList.drop (n * s) = [] := List.drop_eq_nil_of_le (by simp; omega)
        simp only [Nat.zero_add, List.take_zero, List.nil_append, e1, List.append_nil] at hst
        simp [Builtin.copy_, run_underlying hu, Builtin.lenOf, Builtin.firstCells, sizeOf, typeInfo, hq, hi, hl, hst]
      · simp
      · simp [hj]

theorem wpList_copy_full {P : Program} (w : World) {ops : Array Oper} {rest : List Oper} {op : Oper} {ac : Act} {Q : Exit → Act → World → Prop} (hgd : op.guard = none) (d s' : Operand) (dT sT : TypeId)
    (ho : op.op = .call { callee := .builtin .copy, args := #[d, s'], argTypes := #[dT, sT] }) (elem e : TypeId) {s : Nat} (hu : P.underlying dT = some (.slice elem)) (hs : (P.info? elem).map (·.size) = some s) (g n dc sc : Nat) (src : Option Addr) (c px : Nat → Value)
    (hd : ac.eval d = .slice (some ⟨g, 0, none⟩) n dc) (hsv : ac.eval s' = .slice src n sc) (hb : Blk w g e (n * s) c)
    (hsrc : n = 0 ∨ ∃ a, src = some a ∧ ∀ j, j < n * s → w.cell? (a.add j) = some (px j)) (h1 : ∀ j, j < n * s → (px j).oneCell' = true)
    (h : ∀ w', Blk w' g e (n * s) px → w.grownBy w' (some g) → w'.heap.size = w.heap.size → wpList P ops Q rest (ac.put op.dst (goInt n)) w') : wpList P ops Q (op :: rest) ac w := by
  refine wpList_plain hgd fun K hK => ?_
  obtain ⟨w', hr, h2, h3, h4⟩ := run_copy_full (P := P) w dT sT op.type elem e hu hs g n dc sc src c px hb hsrc h1
  unfold Oper.wp
  simp [execOp, ho, resolve, invoke, builtin, hd, hsv, hr, Result.andThen]
  exact hK _ _ (h w' h2 h3 h4)

#print axioms wpList_copy_full
end Go.Proofs.Ybulkbzcc
