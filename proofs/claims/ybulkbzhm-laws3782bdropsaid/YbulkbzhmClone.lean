/-
  slices.Clone of a hold's pending list.
-/
import Derived.Test.YbulkbzhmTok
import Derived.Deep.AppendSrc
import Derived.Deep.Upon
namespace Go.Proofs.Ybulkbzhm
set_option linter.unusedSectionVars false
variable [Base]
open Go.RowKit Go.Maps
open Go.WideShapes (add_plain)

/-- A copy of the list P, in a block that was not there before. -/
def Copied (w w' : World) (v : Value) (P : List Nat) : Prop :=
  ∃ a cap, v = .slice a P.length cap ∧ Ch (fun _ => False) w w' ∧ (P = [] ∨ ∃ g sz c, a = some ⟨g, 0, none⟩ ∧ Blk w' g 63 sz c ∧ P.length ≤ sz ∧ ∀ i, i < P.length → c i = .int .u32 ((P.getD i 0 : Nat) : Int))

attribute [-go_sem] Builtin.append_ in
set_option maxRecDepth 100000 in
set_option maxHeartbeats 1000000 in
theorem clone_row {w : World} {v : Value} {P : List Nat} (h : LRow w 63 .u32 v P) (hP : P.length ≤ 5000) :
    Calls Yba.prog 10 #[v] w fun e w' => ∃ v', e = .returned v' ∧ Copied w w' v' P := by
  have hnil : ∀ (W : World) (a : Option Addr) (n c : Nat), (binOp .eql 60 (.slice a n c) (.slice none 0 0)).run Yba.prog W = .ok (.bool a.isNone) W := fun W a n c => Lib.run_eql_slice_nil W _ _ a n c 0 0 Yba.underlying60
  rcases h with ⟨rfl, rfl⟩ | ⟨g, cap, sz, c, rfl, h1, h2, h3, h4, h5⟩
  · go_enter Yba.func10, Yba.ntmps10
    go_wp2
    go_ret
    exact ⟨_, rfl, none, 0, rfl, Ch.refl _ _, .inl rfl⟩
  · go_enter Yba.func10, Yba.ntmps10
    obtain ⟨news, hnl, hnews⟩ : ∃ news : List Value, news.length = P.length ∧ ∀ j u, news[j]? = some u → ∃ h : j < P.length, u = .int .u32 ((P.getD j 0 : Nat) : Int) := ⟨P.map fun x : Nat => Value.int .u32 (x : Int), by simp, fun j u hu => by
      rw [List.getElem?_map] at hu
      cases hj : P[j]? with
      | none => rw [hj] at hu; simp at hu
      | some x =>
        rw [hj] at hu
        simp at hu
        have hlt := (List.getElem?_eq_some_iff.1 hj).1
        exact ⟨hlt, by rw [← hu]; simp [List.getD, hj]⟩⟩
    obtain ⟨i, hi, hz, hs, hb⟩ := info_parts info63
    by_cases hp : P.length = 0
    · have hP0 : P = [] := List.length_eq_zero_iff.1 hp
      subst hP0
      have hrun : ∀ ty, (Builtin.append_ #[60, 60] ty #[.slice (some ⟨w.heap.size, 0, none⟩) 0 0, .slice (some ⟨g, 0, none⟩) 0 cap]).run Yba.prog (w.alloc (.cells #[] 63)) = .ok (.slice (some ⟨w.heap.size, 0, none⟩) 0 0) (w.alloc (.cells #[] 63)) := fun ty => run_append_nothing _ 60 60 ty 63 _ Yba.underlying60 hi _ 0 0 (Nat.le_refl _) _ (Src.ofSlice _ Yba.underlying60 _ _ _ [] (by simp) (fun j u hu => by simp at hu) (fun _ hu => by simp at hu))
      go_wp2
      go_ret
      exact ⟨_, rfl, _, 0, rfl, (Ch.refl _ w).alloc _, .inl rfl⟩
    · have hgw : g < w.heap.size := h3.lt
      have hsrc : Src Yba.prog i.size 60 (.slice (some ⟨g, 0, none⟩) P.length cap) P.length news (w.alloc (.cells #[] 63)) := Src.ofSlice _ Yba.underlying60 _ _ _ news (by rw [hnl, hs, Nat.mul_one]) (fun j u hu => by
        obtain ⟨hj, rfl⟩ := hnews j u hu
        rw [add_plain, Nat.zero_add, (h3.alloc _).cell (by omega), h5 j hj]) (fun u hu => by
        obtain ⟨j, hj⟩ := List.getElem?_of_mem hu
        obtain ⟨_, rfl⟩ := hnews j u hj
        rfl)
      have hfit : Builtin.nextslicecap (0 + P.length) 0 * i.bytes ≤ 281474976710656 := by
        rw [hb]
        exact growslice_fits (need := 0 + P.length) (old := 0) (bytes := 4) (by omega) (by omega)
      obtain ⟨gc, cap', w', hrun, hc', sz', c', hb', hle', hcell'⟩ : ∃ (gc cap' : Nat) (w' : World), (∀ ty, (Builtin.append_ #[60, 60] ty #[.slice (some ⟨w.heap.size, 0, none⟩) 0 0, .slice (some ⟨g, 0, none⟩) P.length cap]).run Yba.prog (w.alloc (.cells #[] 63)) = .ok (.slice (some ⟨gc, 0, none⟩) P.length cap') w') ∧ Ch (fun _ => False) w w' ∧ ∃ sz' c', Blk w' gc 63 sz' c' ∧ P.length ≤ sz' ∧ ∀ j, j < P.length → c' j = .int .u32 ((P.getD j 0 : Nat) : Int) := by
        refine ⟨_, _, _, fun ty => by
          have := run_append_grow_src (P := Yba.prog) (w.alloc (.cells #[] 63)) 60 60 ty 63 i _ Yba.underlying60 hi hz (some ⟨w.heap.size, 0, none⟩) 0 0 [] (run_firstCells_some _ _ _ _ _ _ [] (by simp) (fun j u hu => by simp at hu)) _ P.length news hsrc (by omega) (by omega) hfit
          rw [Nat.zero_add] at this
          exact this, (((Ch.refl _ w).alloc _).drew).alloc _, _, fun j => (([] ++ news).toArray ++ Builtin.zeroCells (Value.int IntKind.u32 0).cells (grownCap (w.alloc (.cells #[] 63)) P.length 0 63 - P.length))[j]?.getD (.bool false), Blk.new (w.alloc (.cells #[] 63)).drew _ 63 (by have := h3.room; simp; omega) rfl (fun j hj => ?_), by simp [hnl], fun j hj => ?_⟩
        · rw [Array.getElem?_eq_getElem hj]
          rfl
        · show (([] ++ news).toArray ++ _)[j]?.getD _ = _
          rw [Array.getElem?_append_left (by simp [hnl, hj])]
          have hj2 : j < news.length := by rw [hnl]; exact hj
          obtain ⟨_, hu⟩ := hnews j news[j] (List.getElem?_eq_getElem hj2)
          simp [List.getElem?_eq_getElem hj2, hu]
      clear hnews hsrc hfit
      go_wp2
      go_ret
      exact ⟨_, rfl, _, _, rfl, hc', .inr ⟨gc, sz', c', rfl, hb', hle', hcell'⟩⟩

#print axioms clone_row
end Go.Proofs.Ybulkbzhm
