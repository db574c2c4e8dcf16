/-
  (store).write: a new latest version of an item; the one before is queued.
-/
import Derived.Test.YbulkbzccStore
import Derived.Deep.RegionLaw
namespace Go.Proofs.Ybulkbzcc
open Go.RowKit
open Go.WideShapes (add_plain)

/-- A new block of two cells. -/
def two (a b : Value) (j : Nat) : Value := if j = 0 then a else b

theorem two_new (w : World) (a b : Value) (t : TypeId) : ∀ j, j < 2 → (w.alloc (.cells #[a, b] t)).cell? ((⟨w.heap.size, 0, none⟩ : Addr).add j) = some (two a b j) := by
  intro j hj
  have : j = 0 ∨ j = 1 := by omega
  rcases this with rfl | rfl <;> simp [add_plain, two]

theorem two_cell {a b : Value} (ha : a.oneCell' = true) (hb : b.oneCell' = true) : ∀ j, j < 2 → (two a b j).oneCell' = true := by
  intro j hj
  have : j = 0 ∨ j = 1 := by omega
  rcases this with rfl | rfl <;> simp [two, ha, hb]

theorem Appended.val {w w' : World} {e : TypeId} {s : Nat} {v v' : Value} {n : Nat} {nw : Nat → Value} (h : Appended w w' e s v v' n nw) : ∃ g o cap, v' = .slice (some ⟨g, o, none⟩) (n + 1) cap := by
  rcases h with ⟨g, o, cap, _, _, rfl, _⟩ | ⟨cap, c', rfl, _⟩
  · exact ⟨g, o, cap, rfl⟩
  · exact ⟨_, _, cap, rfl⟩

/-- append, its run known, as one step of a region that draws. -/
theorem step_append1 {P : Program} {ops : Array Oper} {o : Oper} {a : Act} {w : World} {K : Act → World → Prop} {Q : Exit → Act → World → Prop} {E : Prop}
    (hg : o.guard = none) (s x : Operand) (t : TypeId) (hop : o.op = Op.call { callee := Callee.builtin Builtin.append, args := #[s, x], argTypes := #[t, t] })
    (v u v' : Value) (w' : World) (hs : a.eval s = v) (hx : a.eval x = u) (hr : (Builtin.append_ #[t, t] o.type #[v, u]).run P w = .ok v' w') (hK : K (a.put o.dst v') w') :
    if Region.wanted o (yielded ops a.tmps) = true then Oper.wp P o a w K Q else E := by
  have hw : Region.wanted o (yielded ops a.tmps) = true := by simp [Region.wanted, hg]
  rw [if_pos hw]
  unfold Oper.wp
  simp [execOp, hop, resolve, invoke, builtin, hs, hx, hr, Result.andThen]
  exact hK

set_option maxRecDepth 100000 in
set_option maxHeartbeats 1000000 in
theorem swrite_walk (L K n B o cp ct i nq : Nat) (num ver vv : Int) (c ck : Nat → Value) (xb xq : Nat → Value) (w : World) (hb : Blk w L 75 15 c) (c3 : c 3 = .slice (some ⟨K, 0, none⟩) (n + 1) (n + 1)) (hK : Blk w K 94 (n + 1) ck) (hi : i ≤ n)
    (hk : ck i = .slice (some ⟨B, o, none⟩) (ct + 1) cp) (hB : SliceIs w 79 3 (.slice (some ⟨B, o, none⟩) (ct + 1) cp) (ct + 1) xb) (hct : ct ≤ 100000) (hq : SliceIs w 105 2 (c 4) nq xq) (hnq : nq ≤ 100000) :
    Calls Yba.prog 27 #[.pointer (some ⟨L, 3, none⟩), .int .i64 num, .int .i64 (i : Int), .int .i64 ver, .int .i64 vv] w fun e w' => e = .returned (.tuple #[]) ∧ ∃ v1 w1 v2 w2,
      Appended (w.alloc (.cells #[.int .i64 vv, .int .i64 ver, .int .i64 num] 79)).drew w1 79 3 (.slice (some ⟨B, o, none⟩) (ct + 1) cp) v1 (ct + 1) (three (.int .i64 vv) (.int .i64 ver) (.int .i64 num)) ∧
      Appended ((w1.setCell ⟨K, i, none⟩ v1).alloc (.cells #[.int .i64 num, .int .i64 (i : Int)] 105)) w2 105 2 (c 4) v2 nq (two (.int .i64 num) (.int .i64 (i : Int))) ∧ w' = w2.setCell ⟨L, 4, none⟩ v2 := by
  have g3 : w.cell? ⟨L, 3, none⟩ = some (.slice (some ⟨K, 0, none⟩) (n + 1) (n + 1)) := (hb.cell (i := 3) (by omega)).trans (by rw [c3])
  have gk : w.cell? ⟨K, i, none⟩ = some (.slice (some ⟨B, o, none⟩) (ct + 1) cp) := (hK.cell (i := i) (by omega)).trans (by rw [hk])
  have l1 := hb.lt
  have l2 := hK.lt
  obtain ⟨v1, w1, hr, ha⟩ := run_append1 (P := Yba.prog) (w.alloc (.cells #[.int .i64 vv, .int .i64 ver, .int .i64 num] 79)).drew 94 94 79 Yba.underlying94 info79 rfl (.slice (some ⟨B, o, none⟩) (ct + 1) cp) (ct + 1) xb (hB.alloc _) ⟨w.heap.size, 0, none⟩ 1 (three (.int .i64 vv) (.int .i64 ver) (.int .i64 num)) (three_new _ _ _ _ _) (three_cell rfl rfl rfl) (by omega) (by unfold maxLen; omega)
  obtain ⟨g1, o1, cp1, rfl⟩ := ha.val
  have hg := ha.grown
  have hBL : L ≠ B := by
    obtain ⟨sz, cb, hbb⟩ := hB.typed rfl
    exact hb.ne hbb (by decide)
  have hBK : K ≠ B := by
    obtain ⟨sz, cb, hbb⟩ := hB.typed rfl
    exact hK.ne hbb (by decide)
  have hL1 : Blk w1 L 75 15 c := (hb.alloc _).of_block (hg.block L (by simp; omega) (by simpa [Value.ownBlock] using hBL))
  have hK1 : Blk w1 K 94 (n + 1) ck := (hK.alloc _).of_block (hg.block K (by simp; omega) (by simpa [Value.ownBlock] using hBK))
  have k4 : w1.cell? ⟨K, i, none⟩ = some (ck i) := hK1.cell (by omega)
  have g31 : w1.cell? ⟨L, 3, none⟩ = some (.slice (some ⟨K, 0, none⟩) (n + 1) (n + 1)) := (hL1.cell (i := 3) (by omega)).trans (by rw [c3])
  have zK := hK1.frozen
  have zL := hL1.frozen
  have hKL : K ≠ L := hK.ne hb (by decide)
  have hLK : L ≠ K := fun h => hKL h.symm
  have s4 : w1.cell? ⟨L, 4, none⟩ = some (c 4) := hL1.cell (by omega)
  have hiI : (i : Int) < (n : Int) + 1 := by omega
  have hq1 : ∀ o, SliceIs ((w1.setCell ⟨K, i, none⟩ (.slice (some ⟨g1, o1, none⟩) (ct + 1 + 1) cp1)).alloc o) 105 2 (c 4) nq xq := fun o => by
    have e1 : SliceIs w1 105 2 (c 4) nq xq := (hq.alloc _).of_block fun g hg4 => by
      obtain ⟨sz, cc, hbb⟩ := hq.typed hg4
      obtain ⟨sz', cc', hbB⟩ := hB.typed rfl
      exact hg.block g (by have := hbb.lt; simp; omega) (by simpa [Value.ownBlock] using hbb.ne hbB (by decide))
    refine SliceIs.alloc (e1.of_block fun g hg4 => heap_setCell_other _ _ _ _ ?_) o
    obtain ⟨sz, cc, hbb⟩ := e1.typed hg4
    exact hbb.ne hK1 (by decide)
  have hL2 : ∀ o, Blk ((w1.setCell ⟨K, i, none⟩ (.slice (some ⟨g1, o1, none⟩) (ct + 1 + 1) cp1)).alloc o) L 75 15 c := fun o => (hL1.set_other (a := ⟨K, i, none⟩) hLK _).alloc o
  have hnew := fun o => two_new (w1.setCell ⟨K, i, none⟩ (.slice (some ⟨g1, o1, none⟩) (ct + 1 + 1) cp1)) (.int .i64 num) (.int .i64 (i : Int)) o
  simp only [World.size_setCell] at hnew
  have hL3 : ∀ o nw v2 w2, Appended ((w1.setCell ⟨K, i, none⟩ (.slice (some ⟨g1, o1, none⟩) (ct + 1 + 1) cp1)).alloc o) w2 105 2 (c 4) v2 nq nw → Blk w2 L 75 15 c := fun o nw v2 w2 hap => (hL2 o).of_block (hap.grown.block L (hL2 o).lt fun hc => by
    obtain ⟨sz, cc, hbb⟩ := (hq1 o).typed hc.symm
    exact absurd rfl ((hL2 o).ne hbb (by decide)))
  go_enter Yba.func27, Yba.ntmps27
  go_wp2_with fail
  go_region_law (refine step_append1 rfl (.tmp 21) (.tmp 26) 94 rfl _ _ _ w1 (by simp [Act.eval]) (by simp [Act.eval]) hr ?_)
  all_goals refine ?main
  go_wp2_with (at_builtin; refine wpList_append1 _ rfl _ _ 68 rfl 105 Yba.underlying68 info105 rfl (c 4) nq xq rfl (hq1 _) ⟨w1.heap.size, 0, none⟩ _ (two (.int .i64 num) (.int .i64 (i : Int))) rfl (hnew _) (two_cell rfl rfl) (by omega) (by unfold maxLen; omega) ?_; intro v2 w2 hap; obtain ⟨g2, o2, cp2, rfl⟩ := hap.val; have hL4 := hL3 _ _ _ _ hap; have zL4 := hL4.frozen; have s44 := hL4.cell (i := 4) (by omega))
  go_end0
  exact ⟨rfl, _, _, _, _, ha, hap, rfl⟩

end Go.Proofs.Ybulkbzcc
