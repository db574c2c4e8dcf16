/-
  append OF ONE ELEMENT, AT WHATEVER PLACE OF A BLOCK THE SLICE LIES: what becomes of the blocks, cell by cell.
-/
import Derived.Test.YbulkbzhmBlk
import Derived.WideShapes
namespace Go.Proofs.Ybulkbzhm
set_option linter.unusedSectionVars false
variable [Base]
open Go.RowKit
open Go.WideShapes (add_plain)

/-- THE SLICE VALUE v HAS n ELEMENTS (s cells each, of type e); cell j of them is 'x j'; its array lies in its block up to the capacity. -/
def SliceIs (w : World) (e : TypeId) (s : Nat) (v : Value) (n : Nat) (x : Nat → Value) : Prop :=
  (v = .slice none 0 0 ∧ n = 0) ∨
  ∃ g o cap sz c, v = .slice (some ⟨g, o, none⟩) n cap ∧ n ≤ cap ∧ cap ≤ maxLen ∧ Blk w g e sz c ∧ o + cap * s ≤ sz ∧ ∀ j, j < n * s → c (o + j) = x j

/-- WHAT append(v, one element) LEAVES: it lies behind the elements of v in v's own array, or in a new block beside a copy of them. -/
def Appended (w w' : World) (e : TypeId) (s : Nat) (v v' : Value) (n : Nat) (nw : Nat → Value) : Prop :=
  (∃ g o cap, v = .slice (some ⟨g, o, none⟩) n cap ∧ n + 1 ≤ cap ∧ v' = .slice (some ⟨g, o, none⟩) (n + 1) cap ∧ w.grownBy w' (some g) ∧ w'.heap.size = w.heap.size ∧
    ∀ sz c, Blk w g e sz c → o + (n + 1) * s ≤ sz → Blk w' g e sz (fun j => if o + n * s ≤ j ∧ j < o + (n + 1) * s then nw (j - (o + n * s)) else c j)) ∨
  (∃ cap c', v' = .slice (some ⟨w.heap.size, 0, none⟩) (n + 1) cap ∧ n + 1 ≤ cap ∧ cap ≤ maxLen ∧ w.grownBy w' none ∧ w'.heap.size = w.heap.size + 1 ∧ Blk w' w.heap.size e (cap * s) c' ∧
    (∀ j, j < s → c' (n * s + j) = nw j) ∧ ∀ g o cp sz c, v = .slice (some ⟨g, o, none⟩) n cp → Blk w g e sz c → o + n * s ≤ sz → ∀ j, j < n * s → c' j = c (o + j))

theorem news_get (nw : Nat → Value) (s j : Nat) (u : Value) (h : ((List.range s).map nw)[j]? = some u) : j < s ∧ u = nw j := by
  by_cases hj : j < s
  · rw [List.getElem?_map, List.getElem?_range hj] at h
    simp at h
    exact ⟨hj, h.symm⟩
  · rw [List.getElem?_eq_none (by simp; omega)] at h
    cases h

theorem run_append1 {P : Program} (w : World) (hB : Base.n ≤ w.heap.size) (t ty e : TypeId) {z : Value} {s bytes : Nat} (ht : P.underlying t = some (.slice e)) (hi : (P.info? e).map (fun i => (i.zero, i.size, i.bytes)) = some (some z, s, bytes)) (hzs : z.cells.size = s)
    (v : Value) (n : Nat) (x : Nat → Value) (hv : SliceIs w e s v n x) (a : Addr) (cc : Nat) (nw : Nat → Value) (hnw : ∀ j, j < s → w.cell? (a.add j) = some (nw j)) (h1 : ∀ j, j < s → (nw j).oneCell' = true)
    (hbytes : (n + 1) * bytes ≤ 140737488355328) (hmax : n + 1 ≤ maxLen) :
    ∃ v' w', (Builtin.append_ #[t, t] ty #[v, .slice (some a) 1 cc]).run P w = .ok v' w' ∧ Appended w w' e s v v' n nw := by
  obtain ⟨i, hi0, hz, hz1, hz2⟩ := info_parts hi
  subst hz1
  subst hz2
  have h63 : n + 1 ≤ 9223372036854775807 := by simp only [maxLen] at hmax; omega
  have hl : ((List.range i.size).map nw).length = 1 * i.size := by simp
  have hnews : ∀ j u, ((List.range i.size).map nw)[j]? = some u → w.cell? (a.add j) = some u := fun j u hu => by
    obtain ⟨hj, rfl⟩ := news_get _ _ _ _ hu
    exact hnw j hj
  have h1' : ∀ u ∈ (List.range i.size).map nw, u.oneCell' = true := fun u hu => by
    simp at hu
    obtain ⟨j, hj, rfl⟩ := hu
    exact h1 j hj
  rcases hv with ⟨rfl, rfl⟩ | ⟨g, o, cap, sz, c, rfl, hnc, hcm, hb, hin, hx⟩
  · have hr := run_append_nil (P := P) w t ty e i z ht hi0 hz a 1 cc _ hl hnews (by omega) (by omega) (by omega)
    refine ⟨_, _, hr, .inr ⟨_, fun j => if j < i.size then nw j else (Builtin.zeroCells z.cells (grownCap w 1 0 e - 1))[j - i.size]?.getD undef, rfl, grownCap_ge w 1 0 e, grownCap_le_maxLen w 1 0 e (by omega), ⟨rfl, rfl, rfl, by simp, fun k hk _ => Below.heap_alloc w.drew _ k hk⟩, by simp, ?_, fun j hj => by simp [hj], fun _ _ _ _ _ h => by simp at h⟩⟩
    have hge := grownCap_ge w 1 0 e
    refine Blk.new w.drew _ e hB ?_ fun j hj => ?_
    · simp only [Array.size_append, List.size_toArray, size_zeroCells, hzs, List.length_map, List.length_range]
      have : grownCap w 1 0 e = (grownCap w 1 0 e - 1) + 1 := by omega
      rw [this, Nat.add_mul]
      simp
      omega
    · by_cases hj1 : j < i.size
      · rw [Array.getElem?_append_left (by simpa using hj1)]
        simp [hj1]
      · rw [Array.getElem?_append_right (by simpa using hj1)]
        have hlt : j - i.size < (Builtin.zeroCells z.cells (grownCap w 1 0 e - 1)).size := by
          rw [size_zeroCells, hzs]
          have : grownCap w 1 0 e * i.size = (grownCap w 1 0 e - 1) * i.size + 1 * i.size := by rw [← Nat.add_mul]; congr 1; omega
          omega
        simp [hj1, hlt]
  · obtain ⟨hlow, cur, hg, hs, hc⟩ := hb
    by_cases hroom : n + 1 ≤ cap
    · have e1 : (n + 1) * i.size = n * i.size + i.size := by rw [Nat.add_mul, Nat.one_mul]
      have e2 : (n + 1) * i.size ≤ cap * i.size := Nat.mul_le_mul_right _ hroom
      have hst := run_storeCells_at P g (o + n * i.size) e _ 0 cur w hg (by rw [hl]; omega) h1'
      have hf := run_firstCells_some (P := P) w i.size 1 a 1 cc _ hl hnews
      have hr : (Builtin.append_ #[t, t] ty #[.slice (some ⟨g, o, none⟩) n cap, .slice (some a) 1 cc]).run P w =
          .ok (.slice (some ⟨g, o, none⟩) (n + 1) cap) (w.setRow g (cur.toList.take (o + n * i.size + 0) ++ (List.range i.size).map nw ++ cur.toList.drop (o + n * i.size + 0 + ((List.range i.size).map nw).length)).toArray) := by
        have hst2 := hst
        simp only [Nat.add_zero] at hst2
        simp only [Nat.add_zero]
        simp [Builtin.append_, run_underlying ht, sizeOf, typeInfo, hi0, Builtin.lenOf, hroom, hf, add_plain, -List.length_map, hst2]
      refine ⟨_, _, hr, .inl ⟨g, o, cap, rfl, hroom, rfl, ⟨rfl, rfl, rfl, by simp, fun k _ hk => setRow_other w g k _ (fun e => hk (by rw [e]))⟩, by simp, fun sz' c' hb' hin' => ?_⟩⟩
      obtain ⟨_, cur', hg', hs', hc'⟩ := hb'
      rw [hg] at hg'
      simp at hg'
      subst hg'
      refine ⟨hlow, _, setRow_heap w g cur _ e _ hg, ?_, fun j hj => ?_⟩
      · simp only [List.size_toArray, List.length_append, List.length_take, List.length_drop, Array.length_toList, List.length_map, List.length_range]
        omega
      · rw [List.getElem?_toArray, List.append_assoc]
        by_cases ha : j < o + n * i.size
        · rw [List.getElem?_append_left (by simp; omega)]
          have : ¬ (o + n * i.size ≤ j ∧ j < o + (n + 1) * i.size) := by omega
          simp only [this, if_false]
          rw [List.getElem?_take, if_pos (by omega), ← hc' j hj]
          simp
        · rw [List.getElem?_append_right (by simp; omega)]
          have hlen : (cur.toList.take (o + n * i.size + 0)).length = o + n * i.size := by simp; omega
          rw [hlen]
          by_cases hb2 : j < o + (n + 1) * i.size
          · rw [List.getElem?_append_left (by simp; omega)]
            have hh : o + n * i.size ≤ j ∧ j < o + (n + 1) * i.size := ⟨by omega, hb2⟩
            have hk : j - (o + n * i.size) < i.size := by omega
            simp only [hh, and_self, if_true]
            rw [List.getElem?_map, List.getElem?_range hk]
            rfl
          · rw [List.getElem?_append_right (by simp; omega)]
            have : ¬ (o + n * i.size ≤ j ∧ j < o + (n + 1) * i.size) := by omega
            simp only [this, if_false]
            rw [List.getElem?_drop, ← hc' j hj]
            simp only [List.length_map, List.length_range, Array.getElem?_toList]
            congr 1
            omega
    · have hxl : ((List.range (n * i.size)).map (fun j => c (o + j))).length = n * i.size := by simp
      have e2 : n * i.size ≤ cap * i.size := Nat.mul_le_mul_right _ hnc
      have holds : ∀ j u, ((List.range (n * i.size)).map (fun j => c (o + j)))[j]? = some u → w.cell? ((⟨g, o, none⟩ : Addr).add j) = some u := fun j u hu => by
        obtain ⟨hj, rfl⟩ := news_get _ _ _ _ hu
        rw [add_plain, cell_of_row w g _ cur e (0, 0) hg]
        exact hc _ (by omega)
      have hr := run_append_grow (P := P) w t ty e i z ht hi0 hz ⟨g, o, none⟩ n cap _ hxl holds a 1 cc _ hl hnews (by omega) (by omega) (growslice_fits (by omega) hbytes)
      have hge := grownCap_ge w (n + 1) cap e
      refine ⟨_, _, hr, .inr ⟨_, fun j => if j < n * i.size then c (o + j) else if j < n * i.size + i.size then nw (j - n * i.size) else (Builtin.zeroCells z.cells (grownCap w (n + 1) cap e - (n + 1)))[j - (n * i.size + i.size)]?.getD undef, rfl, hge, grownCap_le_maxLen w (n + 1) cap e hmax,
        ⟨rfl, rfl, rfl, by simp, fun k hk _ => Below.heap_alloc w.drew _ k hk⟩, by simp, ?_, fun j hj => ?_, fun g' o' cp sz' c' hv' hb' hin' j hj => ?_⟩⟩
      · have e3 : grownCap w (n + 1) cap e * i.size = (grownCap w (n + 1) cap e - (n + 1)) * i.size + (n * i.size + i.size) := by
          have : grownCap w (n + 1) cap e = (grownCap w (n + 1) cap e - (n + 1)) + (n + 1) := by omega
          rw [this]
          simp [Nat.add_mul]
        refine Blk.new w.drew _ e hB ?_ fun j hj => ?_
        · simp only [Array.size_append, List.size_toArray, size_zeroCells, hzs, List.length_map, List.length_range]
          omega
        · by_cases hj1 : j < n * i.size + i.size
          · rw [Array.getElem?_append_left (by simp; omega)]
            by_cases hj2 : j < n * i.size
            · rw [Array.getElem?_append_left (by simp; omega)]
              simp [hj2]
            · rw [Array.getElem?_append_right (by simp; omega)]
              have hk : j - n * i.size < i.size := by omega
              simp [hj2, hj1, hk]
          · rw [Array.getElem?_append_right (by simp; omega)]
            have hj2 : ¬ j < n * i.size := by omega
            have hlt : j - (n * i.size + i.size) < (Builtin.zeroCells z.cells (grownCap w (n + 1) cap e - (n + 1))).size := by
              rw [size_zeroCells, hzs]
              omega
            simp [hj1, hj2, hlt]
      · have a1 : ¬ (n * i.size + j < n * i.size) := by omega
        have a2 : n * i.size + j < n * i.size + i.size := by omega
        simp [a1, hj]
      · simp at hv'
        obtain ⟨⟨rfl, rfl⟩, rfl⟩ := hv'
        obtain ⟨_, cur', hg', hs', hc'⟩ := hb'
        rw [hg] at hg'
        simp at hg'
        subst hg'
        have y1 := hc (o + j) (by omega)
        rw [hc' (o + j) (by omega)] at y1
        simp only [hj, if_true]
        simpa using y1.symm

theorem wpList_append1 {P : Program} (w : World) (hB : Base.n ≤ w.heap.size) {ops : Array Oper} {rest : List Oper} {op : Oper} {ac : Act} {Q : Exit → Act → World → Prop} (hgd : op.guard = none) (s' x' : Operand) (t : TypeId)
    (ho : op.op = .call { callee := .builtin .append, args := #[s', x'], argTypes := #[t, t] })
    (e : TypeId) {z : Value} {s bytes : Nat} (ht : P.underlying t = some (.slice e)) (hi : (P.info? e).map (fun i => (i.zero, i.size, i.bytes)) = some (some z, s, bytes)) (hzs : z.cells.size = s)
    (v : Value) (n : Nat) (x : Nat → Value) (hs : ac.eval s' = v) (hv : SliceIs w e s v n x) (a : Addr) (cc : Nat) (nw : Nat → Value) (hx : ac.eval x' = .slice (some a) 1 cc) (hnw : ∀ j, j < s → w.cell? (a.add j) = some (nw j)) (h1 : ∀ j, j < s → (nw j).oneCell' = true)
    (hbytes : (n + 1) * bytes ≤ 140737488355328) (hmax : n + 1 ≤ maxLen)
    (h : ∀ v' w', Appended w w' e s v v' n nw → wpList P ops Q rest (ac.put op.dst v') w') : wpList P ops Q (op :: rest) ac w := by
  refine wpList_plain hgd fun K hK => ?_
  obtain ⟨v', w', hr, h2⟩ := run_append1 (P := P) w hB t op.type e ht hi hzs v n x hv a cc nw hnw h1 hbytes hmax
  unfold Oper.wp execOp
  simp only [ho, resolve, invoke, builtin, Sem.run_bind, Sem.run_pure, Result.andThen_ok, List.map_toArray, List.map_cons, List.map_nil, hs, hx, hr]
  exact hK _ _ (h v' w' h2)

#print axioms wpList_append1
end Go.Proofs.Ybulkbzhm
