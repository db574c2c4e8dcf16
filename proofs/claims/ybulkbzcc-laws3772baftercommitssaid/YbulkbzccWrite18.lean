/-
  write(t, items): the events of the writes behind t's; Latest(item).
-/
import Derived.Test.YbulkbzccRecord
import Derived.Test.YbulkbzccLatest
namespace Go.Proofs.Ybulkbzcc
open Go.RowKit
open Go.WideShapes (add_plain)

theorem make_three0 {t e : TypeId} {x y z : Value} {bytes : Nat} (ht : Yba.prog.underlying t = some (.slice e)) (hi : (Yba.prog.info? e).map (fun i => (i.zero, i.size, i.bytes)) = some (some (.agg #[x, y, z]), 3, bytes)) (n : Nat) (hb : bytes * n ≤ 281474976710656) (h63 : n ≤ 9223372036854775807) :
    ∃ cur : Array Value, cur.size = n * 3 ∧ ∀ wx, (Instr.makeSlice t (.int .i64 0) (.int .i64 (n : Int))).run Yba.prog wx = .ok (.slice (some ⟨wx.heap.size, 0, none⟩) 0 n) (wx.alloc (.cells cur e)) := by
  obtain ⟨i0, hi0, hz0, hz1, hz2⟩ := info_parts hi
  refine ⟨madeCells #[x, y, z] (n * 3), (madeCells_three x y z (n * 3)).1, fun wx => ?_⟩
  have hr := run_make (P := Yba.prog) wx t e i0 _ ht hi0 hz0 .i64 .i64 0 n (by omega) (by omega) (by rw [hz2]; omega) (by omega)
  rw [hr, hz1]
  simp [Value.cells]

theorem writes_step (k : Nat) (It : Nat → Nat) (ver : Int) (nw : Nat → Value) (h0 : nw 0 = .bool true) (h1 : nw 1 = .int .i64 (It k : Int)) (h2 : nw 2 = .int .i64 (ver + k + 1)) (j : Nat) (hj : j < (k + 1) * 3) :
    (if j < k * 3 then writeCell It ver j else nw (j - k * 3)) = writeCell It ver j := by
  by_cases h : j < k * 3
  · simp [h]
  · have hd : j / 3 = k := by omega
    have hc : j = k * 3 ∨ j = k * 3 + 1 ∨ j = k * 3 + 2 := by omega
    simp only [h, if_false, writeCell, hd]
    rcases hc with rfl | rfl | rfl
    · have : k * 3 % 3 = 0 := by omega
      simp [this, h0]
    · have : (k * 3 + 1) % 3 = 1 := by omega
      simp [this, h1]
    · have : (k * 3 + 2) % 3 = 2 := by omega
      simp [this, h2]

set_option maxRecDepth 100000 in
set_option maxHeartbeats 1000000 in
theorem write_any (L m c ib io : Nat) (ia : Option Addr) (t : Value) (It : Nat → Nat) (ver : Int) (cL : Nat → Value) (w : World) (hL : Blk w L 75 15 cL) (hc1 : cL 1 = .int .i64 ver) (ht : SliceIs w 32 3 t 0 (fun _ => undef)) 
    (hit : RowIs Yba.prog 28 w ia m c ib io (fun i => .int .i64 (It i : Int))) (hib : 0 < m → some ib ≠ t.ownBlock) (hm : m ≤ 1000000) (hver : 0 ≤ ver ∧ ver ≤ 1000000000) :
    Calls Yba.prog 18 #[.pointer (some ⟨L, 0, none⟩), t, .slice ia m c] w fun e w' => ∃ v, e = .returned v ∧ SliceIs w' 32 3 v m (writeCell It ver) ∧ w.grownBy w' t.ownBlock ∧ Ext w.heap.size t 0 v m := by
  obtain ⟨hia, hic, hio⟩ := hit
  have HX := Ext.refl ht w.heap.size
  go_enter Yba.func18, Yba.ntmps18
  go_wp2
  go_loopw [1, 11] (fun v i wr => ∃ k : Nat, k ≤ m ∧ i = .int .i64 k ∧ SliceIs wr 32 3 v k (writeCell It ver) ∧ w.grownBy wr t.ownBlock ∧ Ext w.heap.size t 0 v k)
    (fun _ i _ => m - (intOf i).toNat)
  case atStart => exact ⟨0, Nat.zero_le _, rfl, ht.congr (fun j hj => by omega), World.grownBy.refl _ _, HX⟩
  case round =>
    obtain ⟨k, hk, rfl, hv, hg, hx⟩ := hrel
    by_cases hlt : k < m
    · have hick : wr.cell? ⟨ib, io + k, none⟩ = some (.int .i64 (It k : Int)) := hg.cell (hic k hlt) (hib (by omega))
      have hL1 : Blk wr L 75 15 cL := hL.of_block (hg.block L hL.lt fun hc => by
        obtain ⟨sz', c', hb'⟩ := ht.typed hc.symm
        exact absurd rfl (hL.ne hb' (by decide)))
      have g1 : wr.cell? ⟨L, 1, none⟩ = some (.int .i64 ver) := (hL1.cell (i := 1) (by omega)).trans (by rw [hc1])
      go_wp2_with (at_builtin; refine wpList_append1 _ rfl _ _ 29 rfl 32 Yba.underlying29 info32 rfl _ k _ rfl (hv.alloc _) ⟨wr.heap.size, 0, none⟩ _ (three (.bool true) (.int .i64 (It k : Int)) (.int .i64 (ver + k + 1))) rfl (three_new _ _ _ _ _) (three_cell rfl rfl rfl) (by omega) (by unfold maxLen; omega) ?_; intro v2 w2 hap)
      go_roundw
      case rel =>
        refine ⟨k + 1, by omega, by go_num, ?_, hx.frame hap (hg.trans (World.grownBy_alloc _ _ _)), hx.ap (by have := hg.size; simp; omega) hap⟩
        exact ((hv.alloc _).ap hap).congr fun j hj => writes_step k It ver _ rfl rfl rfl j hj
      case measure => simp [intOf]; omega
    · have hkm : k = m := by omega
      subst hkm
      go_wp2
      go_ret
      exact ⟨_, rfl, hv, hg, hx⟩

end Go.Proofs.Ybulkbzcc
