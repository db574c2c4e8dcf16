/-
  A MAP KEYED BY AN INTEGER KIND, SAID AS A FUNCTION FROM KEYS TO THE VERY VALUES THAT LIE IN IT (elements of whatever type, pointers among them): over the kit's 'World.ownsMap' at tokens that are values.
-/
import Derived.Maps.OwnSet
import Derived.WalkKit
namespace Go.Proofs.Ybulkbzhm
open Go.RowKit Go.Maps

/-- How an element reads: as itself. -/
def heldE (v : Value) : Option (DataW Value × List MemPlace) := some (.held v, [])

/-- BLOCK b IS A MAP OF AT MOST n ENTRIES; at key x it holds 'f x'. -/
def MapI (w : World) (P : Program) (k : TypeId) (q : IntKind) (b n : Nat) (f : Int → Option Value) : Prop :=
  ∃ D : DataW Value, w.ownsMap P k heldE b n D ∧ ∀ x z, D.atKey (.int q x) (.held z) = .held ((f x).getD z)

section
variable {w : World} {P : Program} {k : TypeId} {q : IntKind} {b n : Nat} {f : Int → Option Value}

theorem MapI.made (w : World) (P : Program) (k : TypeId) (q : IntKind) : MapI (w.alloc (.map #[] 0)) P k q w.heap.size 0 (fun _ => none) :=
  ⟨.map [], World.ownsMap_made _ _ _ _, fun _ _ => rfl⟩

theorem MapI.lt (h : MapI w P k q b n f) : b < w.heap.size := by
  obtain ⟨D, h1, _⟩ := h
  exact h1.lt

theorem MapI.mono (h : MapI w P k q b n f) {n' : Nat} (hn : n ≤ n') : MapI w P k q b n' f := by
  obtain ⟨D, h1, h2⟩ := h
  exact ⟨D, h1.mono hn, h2⟩

theorem MapI.of_block {w' : World} (h : MapI w P k q b n f) (e : w'.heap[b]? = w.heap[b]?) : MapI w' P k q b n f := by
  obtain ⟨D, ⟨es, clock, hb, r⟩, h2⟩ := h
  exact ⟨D, ⟨es, clock, e.trans hb, r⟩, h2⟩

theorem MapI.alloc (h : MapI w P k q b n f) (o : Obj) : MapI (w.alloc o) P k q b n f := by
  obtain ⟨D, h1, h2⟩ := h
  exact ⟨D, h1.alloc o, h2⟩

theorem MapI.setCell (h : MapI w P k q b n f) {a : Addr} (ha : b ≠ a.block) (u : Value) : MapI (w.setCell a u) P k q b n f := by
  obtain ⟨D, h1, h2⟩ := h
  exact ⟨D, h1.setCell ha u, h2⟩

theorem MapI.congr (h : MapI w P k q b n f) {g : Int → Option Value} (e : ∀ x, f x = g x) : MapI w P k q b n g := by
  obtain ⟨D, h1, h2⟩ := h
  exact ⟨D, h1, fun x z => by rw [h2, e]⟩

/-- 'm[k]'. -/
theorem MapI.run_lookup {t e : TypeId} (h : MapI w P k q b n f) (hk : P.underlying k = some (.int q)) (ht : P.underlying t = some (.map k e)) {z : Value} (hz : (zeroValue e).run P w = .ok z w)
    {y : Int} (hw : (Lit.int q y).wf = true) : (Instr.lookup t (.map (some b)) (.int q y) false).run P w = .ok ((f y).getD z) w := by
  obtain ⟨D, h1, h2⟩ := h
  obtain ⟨v, ps, hrun, hv⟩ := h1.lookup (int_keyed hk) ht hz (zd := .held z) (zp := []) rfl (keyOf_int_mk hk hw)
  rw [h2] at hv
  simp only [heldE, Option.some.injEq, Prod.mk.injEq, DataW.held.injEq] at hv
  rw [hrun, hv.1]

/-- 'm[k] = v'. -/
theorem MapI.run_update {t e : TypeId} (h : MapI w P k q b n f) (hk : P.underlying k = some (.int q)) (ht : P.underlying t = some (.map k e)) (hn : n < maxLen) {y : Int} (hw : (Lit.int q y).wf = true) (v : Value) :
    ∃ w', (Instr.mapUpdate t (.map (some b)) (.int q y) v).run P w = .ok () w' ∧ MapI w' P k q b (n + 1) (fun x => if x = y then some v else f x) ∧ w.mapTurned w' b := by
  obtain ⟨D, h1, h2⟩ := h
  obtain ⟨w', hrun, o1, o2⟩ := h1.store (int_keyed hk) ht hn (keyOf_int_mk hk hw) (d := .held v) (ps := []) (val := v) rfl
  refine ⟨w', hrun, ⟨_, o1, fun x z => ?_⟩, o2⟩
  by_cases e1 : x = y
  · subst e1
    rw [atKey_put_same h1.isMap (show WideAt.IsKeyLit (.int q x) from trivial)]
    simp
  · rw [atKey_put_other (by simpa using e1), h2]
    simp [e1]

theorem MapI.run_len {t e : TypeId} (h : MapI w P k q b n f) (ht : P.underlying t = some (.map k e)) (ty : TypeId) : ∃ m : Nat, m ≤ n ∧ (Builtin.len_ #[t] ty #[.map (some b)]).run P w = .ok (.int .i64 m) w := by
  obtain ⟨D, h1, _⟩ := h
  exact ⟨_, h1.size_le, h1.len ht ty⟩

theorem MapI.run_len_all {t e : TypeId} (h : MapI w P k q b n f) (ht : P.underlying t = some (.map k e)) (ty : TypeId) : ∃ m : Nat, m ≤ n ∧ ∀ wx : World, wx.heap[b]? = w.heap[b]? → (Builtin.len_ #[t] ty #[.map (some b)]).run P wx = .ok (.int .i64 m) wx := by
  obtain ⟨D, h1, _⟩ := h
  refine ⟨_, h1.size_le, fun wx hw => ?_⟩
  obtain ⟨es, clock, hb, r⟩ := h1
  exact World.ownsMap.len (R := heldE) ⟨es, clock, hw.trans hb, r⟩ ht ty

end

section
variable {P : Program} (w : World) {ops : Array Oper} {rest : List Oper} {o : Oper} {a : Act} {Q : Exit → Act → World → Prop}

/-- 'm[k]' AT THE OPERATION. -/
theorem wpList_lookup_mapI (hg : o.guard = none) (m x : Operand) (t : TypeId) (hop : o.op = Op.lookup t m x false)
    (k e : TypeId) (q : IntKind) (hk : P.underlying k = some (.int q)) (ht : P.underlying t = some (.map k e)) (z : Value) (hz : (zeroValue e).run P w = .ok z w) (b n : Nat) (f : Int → Option Value)
    (hm : a.eval m = .map (some b)) (hown : MapI w P k q b n f) (y : Int) (hx : a.eval x = .int q y) (hw : (Lit.int q y).wf = true) (v : Value) (hv : (f y).getD z = v)
    (hK : wpList P ops Q rest (a.put o.dst v) w) : wpList P ops Q (o :: rest) a w := by
  refine wpList_plain hg fun K' hK' => ?_
  have hrun := hown.run_lookup hk ht hz hw
  rw [hv] at hrun
  unfold Oper.wp
  simp [execOp, hop, hm, hx, hrun, Result.andThen]
  exact hK' _ _ hK

/-- 'm[k] = v' AT THE OPERATION. -/
theorem wpList_update_mapI (hg : o.guard = none) (m x v : Operand) (t : TypeId) (hop : o.op = Op.mapUpdate t m x v)
    (k e : TypeId) (q : IntKind) (hk : P.underlying k = some (.int q)) (ht : P.underlying t = some (.map k e)) (b n : Nat) (f : Int → Option Value)
    (hm : a.eval m = .map (some b)) (hown : MapI w P k q b n f) (hn : n < maxLen) (y : Int) (hx : a.eval x = .int q y) (hw : (Lit.int q y).wf = true) (u : Value) (hu : a.eval v = u)
    (hK : ∀ w', MapI w' P k q b (n + 1) (fun x => if x = y then some u else f x) → w.mapTurned w' b → wpList P ops Q rest (a.put o.dst undef) w') : wpList P ops Q (o :: rest) a w := by
  refine wpList_plain hg fun K' hK' => ?_
  obtain ⟨w', hrun, r1, r2⟩ := hown.run_update hk ht hn hw u
  unfold Oper.wp
  simp [execOp, hop, hm, hx, hu, hrun, Result.andThen]
  exact hK' _ _ (hK w' r1 r2)

end

/-- A SLICE THAT IS READ: whatever its address is, index k leads to the cell (b, off + k), which holds 'g k'. -/
structure RowIs (P : Program) (t : TypeId) (w : World) (a : Option Addr) (len cap b off : Nat) (g : Nat → Value) : Prop where
  at_ : ∀ (i : Int) (wx : World), 0 ≤ i → i < (len : Int) → (Instr.indexAt t (.slice a len cap) (.int .i64 i)).run P wx = .ok (.pointer (some ⟨b, off + i.toNat, none⟩)) wx
  cell : ∀ i, i < len → w.cell? ⟨b, off + i, none⟩ = some (g i)
  old : 0 < len → b < w.heap.size

theorem RowIs.below {P : Program} {t : TypeId} {w w' : World} {a : Option Addr} {len cap b off : Nat} {g : Nat → Value} (h : RowIs P t w a len cap b off g) (hb : Below w.heap.size w w') : ∀ i, i < len → w'.cell? ⟨b, off + i, none⟩ = some (g i) :=
  fun i hi => (hb.cell (p := ⟨b, off + i, none⟩) (h.old (by omega))).trans (h.cell i hi)

#print axioms wpList_update_mapI
end Go.Proofs.Ybulkbzhm
