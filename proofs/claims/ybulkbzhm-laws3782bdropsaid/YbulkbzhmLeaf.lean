/-
  The small functions: sectionKind, pendingKey, section, lockList.add, lockList.remove.
-/
import Derived.Test.YbulkbzhmGet
namespace Go.Proofs.Ybulkbzhm
set_option linter.unusedSectionVars false
variable [Base]
open Go.RowKit
open Go.WideShapes (add_plain)

set_option maxRecDepth 100000 in
theorem sectionKind_any (b : Bool) (w : World) : Calls Yba.prog 29 #[.bool b] w fun e w' => e = .returned (.int .u8 (if b then 1 else 0)) ∧ w' = w := by
  cases b <;>
  · go_enter Yba.func29, Yba.ntmps29
    go_wp2
    go_ret
    exact ⟨rfl, rfl⟩

set_option maxRecDepth 100000 in
theorem pendingKey_any (a l : Nat) (w : World) (ha : a ≤ 3) (hl : l ≤ 2) : Calls Yba.prog 13 #[.int .u32 (a : Int), .int .i64 (l : Int)] w fun e w' => e = .returned (.int .u64 ((a * 4294967296 + l : Nat) : Int)) ∧ w' = w := by
  have h1 : a = 0 ∨ a = 1 ∨ a = 2 ∨ a = 3 := by omega
  have h2 : l = 0 ∨ l = 1 ∨ l = 2 := by omega
  rcases h1 with rfl | rfl | rfl | rfl <;> rcases h2 with rfl | rfl | rfl <;>
  · go_enter Yba.func13, Yba.ntmps13
    go_wp2
    go_ret
    exact ⟨by kernel_rfl, rfl⟩

theorem info3 : (Yba.prog.info? 3).map (fun i => (i.zero, i.size, i.bytes)) = some (some (.int .i64 0), 1, 8) := by kernel_rfl

set_option maxRecDepth 100000 in
set_option maxHeartbeats 1000000 in
theorem llAdd (P o sz n l : Nat) (e : TypeId) (v : Value) (x c : Nat → Value) (w : World) (hb : Blk w P e sz c) (ho : o < sz) (hv : c o = v) (he : e ≠ 3) (hs : SliceIs w 3 1 v n x) (hn : n ≤ 100000) :
    Calls Yba.prog 28 #[.pointer (some ⟨P, o, none⟩), .int .i64 (l : Int)] w fun e w' => e = .returned (.int .i64 (n : Int)) ∧ ∃ v' w1, Appended (w.alloc (.cells #[.int .i64 (l : Int)] 3)) w1 3 1 v v' n (fun _ => .int .i64 (l : Int)) ∧ w' = w1.setCell ⟨P, o, none⟩ v' := by
  have q0 : w.cell? ⟨P, o, none⟩ = some v := (hb.cell ho).trans (by rw [hv])
  have fB : ∀ v' w1, Appended (w.alloc (.cells #[.int .i64 (l : Int)] 3)) w1 3 1 v v' n (fun _ => .int .i64 (l : Int)) → Blk w1 P e sz c := fun v' w1 hap => (hb.alloc _).of_block (hap.grown.block P (by have := hb.lt; simp; omega) fun hc => by
    obtain ⟨sz', c', hb'⟩ := hs.typed hc.symm
    exact absurd rfl (hb.ne hb' he))
  go_enter Yba.func28, Yba.ntmps28
  go_wp2_with (at_builtin; refine wpList_append1 _ (by have := hb.room; simp; omega) rfl _ _ 53 rfl 3 Yba.underlying53 info3 rfl v n x rfl (hs.alloc _) ⟨w.heap.size, 0, none⟩ _ (fun _ => .int .i64 (l : Int)) rfl (one_new _ _ _) (fun _ _ => rfl) (by omega) (by unfold maxLen; omega) ?_; intro v2 w2 hap; obtain ⟨g2, o2, cp2, rfl⟩ := hap.val; have hb2 := fB _ _ hap; have z2 := hb2.frozen; have s2 := hb2.cell ho)
  go_ret
  exact ⟨by simp, _, _, hap, rfl⟩

set_option maxRecDepth 100000 in
theorem llRemove (P o g n cap i : Nat) (mv : Int) (w : World) (q0 : w.cell? ⟨P, o, none⟩ = some (.slice (some ⟨g, 0, none⟩) (n + 1) cap)) (hi : i ≤ n) (hn : n ≤ 100000) (hcap : n + 1 ≤ cap) (zP : ∀ j, w.frozen? ⟨P, j, none⟩ = false) (zg : ∀ j, w.frozen? ⟨g, j, none⟩ = false) (hne : P ≠ g)
    (u : Value) (hl : w.cell? ⟨g, n, none⟩ = some (.int .i64 mv)) (hc : w.cell? ⟨g, i, none⟩ = some u) :
    Calls Yba.prog 23 #[.pointer (some ⟨P, o, none⟩), .int .i64 (i : Int)] w fun e w' => e = .returned (.int .i64 mv) ∧ w' = (w.setCell ⟨g, i, none⟩ (.int .i64 mv)).setCell ⟨P, o, none⟩ (.slice (some ⟨g, 0, none⟩) n cap) := by
  have hne2 : g ≠ P := fun h => hne h.symm
  have hiI : (i : Int) < (n : Int) + 1 := by omega
  go_enter Yba.func23, Yba.ntmps23
  go_wp2
  go_ret
  exact ⟨rfl, rfl⟩

end Go.Proofs.Ybulkbzhm
