/-
  Commit(1, nil, ws, nil).
-/
import Derived.Test.YbulkbzccWrite18
import Derived.Test.YbulkbzccAfterL
namespace Go.Proofs.Ybulkbzcc
open Go.RowKit
open Go.WideShapes (add_plain)

theorem RowIs.under {P : Program} {t : TypeId} {w w' : World} {a : Option Addr} {len cap b off : Nat} {g : Nat → Value} (h : RowIs P t w a len cap b off g) (hb : Below w.heap.size w w') : RowIs P t w' a len cap b off g :=
  ⟨h.at_, h.below hb, fun h0 => Nat.lt_of_lt_of_le (h.old h0) hb.size⟩

attribute [-go_sem] Builtin.append_ in
set_option maxRecDepth 100000 in
set_option maxHeartbeats 2000000 in
theorem commit_any (X : Nat → Prop) (L K O G n T m cc ib io : Nat) (ia : Option Addr) (lat : Nat → Int) (It : Nat → Nat) (ver num : Int) (w : World)
    (h : LogS w X L K O G n T lat ver num) (hX : ∀ g, X g → g < w.heap.size)
    (hit : RowIs Yba.prog 28 w ia m cc ib io (fun i => .int .i64 (It i : Int))) (hIt : ∀ j, j < m → It j ≤ n) (hT : T ≤ 90000) (hm : m ≤ 3000) (hn : n ≤ 10000) (hnum : 0 ≤ num ∧ num ≤ 1000000) (hver : 0 ≤ ver ∧ ver ≤ 100000000) :
    Calls Yba.prog 9 #[.pointer (some ⟨L, 0, none⟩), .int .i64 1, .slice none 0 0, .slice ia m cc, .slice none 0 0] w fun e w' => ∃ v, e = .returned v ∧ LogS w' X L K O G n (T + 2 + 2 * m) (latK It ver lat m) (ver + m) (num + 1) ∧ Chg X (fun _ => True) w w' := by
  obtain ⟨c, qi, hL, c1, c2, hcy⟩ := h
  obtain ⟨cur, sC, hmk⟩ := make_three0 Yba.underlying29 info32 m (by omega) (by omega)
  go_enter Yba.func9, Yba.ntmps9
  go_wp2_with fail
  refine (read_none L _ _).mono ?_
  rintro e w1 ⟨rfl, rfl⟩
  go_wp2_with fail
  have hBa : Below w.heap.size w (w.alloc (.cells cur 32)) := (Below.refl _ _).alloc (Nat.le_refl _) _
  have hTs : SliceIs (w.alloc (.cells cur 32)) 32 3 (.slice (some ⟨w.heap.size, 0, none⟩) 0 m) 0 (fun _ => undef) := .inr ⟨w.heap.size, 0, m, m * 3, fun i => cur[i]?.getD undef, rfl, Nat.zero_le _, by unfold maxLen; omega, Blk.new w cur 32 sC (fun i hi => by simp [show i < cur.size by omega]), by omega, fun j hj => by omega⟩
  refine (write_any L m cc ib io ia _ It ver c _ (hL.st.blk.alloc _) c1 hTs (hit.under hBa) (fun h0 => by have := hit.old h0; simp [Value.ownBlock]; omega) (by omega) ⟨by omega, by omega⟩).mono ?_
  rintro e w2 ⟨v, rfl, hv, hg, hx⟩
  have hB : Below w.heap.size w w2 := ⟨hg.os, hg.tape, hg.output, by have := hg.size; simp at this; omega, fun k hk => (hg.block k (by simp; omega) (by simp [Value.ownBlock]; omega)).trans (Below.heap_alloc _ _ _ hk)⟩
  have hc2 : Chg X (fun _ => False) w w2 := (Chg.refl X (fun _ => False) w).below hX hB
  have hX2 : ∀ g, X g → g < w2.heap.size := fun g hx => Nat.lt_of_lt_of_le (hX g hx) hc2.size
  have L2 := hL.chg0 hc2
  go_wp2_with fail
  refine (record_any X L K O G n T m c lat It qi ver num v (writeCell It ver) w2 L2 hcy c1 c2 hX2 hv (fun _ _ => rfl) hIt (by omega) (by omega) hn hnum ⟨by omega, by omega⟩).mono ?_
  rintro e w3 ⟨rfl, c3, L3, d1, d2, d8, d11, hc3⟩
  have hX3 : ∀ g, X g → g < w3.heap.size := fun g hx => Nat.lt_of_lt_of_le (hX2 g hx) hc3.size
  obtain ⟨ms, hms, hws⟩ := L3.servers
  obtain ⟨sa, sc, es⟩ := hws.val
  obtain ⟨mt, hmt, hwt⟩ := L3.txns
  obtain ⟨ta, tc, et⟩ := hwt.val
  rw [es] at hws
  obtain ⟨xs, hxs⟩ := hws.1
  have f10 : w3.cell? ⟨L, 10, none⟩ = some (.slice sa ms sc) := (L3.st.blk.cell (i := 10) (by omega)).trans (by rw [es])
  have f9 : w3.cell? ⟨L, 9, none⟩ = some (.slice ta mt tc) := (L3.st.blk.cell (i := 9) (by omega)).trans (by rw [et])
  have ew : IntKind.i64.wrap ((mt : Int) - 1) = (mt : Int) - 1 := by rw [IntKind.wrap_i64]; omega
  have cz : Chg X (fun _ => False) w3 (w3.alloc (.cells #[.int .i64 ((mt : Int) - 1)] 3)).drew := ((Chg.refl X (fun _ => False) w3).alloc hX3 _).drew
  obtain ⟨v5, w5, hr5, hap⟩ := run_append1 (P := Yba.prog) (w3.alloc (.cells #[.int .i64 ((mt : Int) - 1)] 3)).drew 28 28 3 Yba.underlying28 info3 rfl (.slice sa ms sc) ms xs (hxs.alloc _).drew ⟨w3.heap.size, 0, none⟩ 1 (fun _ => .int .i64 ((mt : Int) - 1)) (one_new w3 _ 3) (fun _ _ => rfl) (by omega) (by unfold maxLen; omega)
  have hL5 : Blk w5 L 75 15 c3 := ((Chg.refl X (fun t => t = 3) _).app (fun g hg => by have := hX3 g hg; simp; omega) (hxs.alloc _).drew hws.2 rfl hap).blk (L3.st.blk.alloc _) (by decide)
  obtain ⟨l1, l2⟩ := LogC.app (f := 10) (e := 3) L3 hX3 (.inr (.inl ⟨rfl, rfl⟩)) cz (by rw [es]; exact hws) hms (by rw [es]; exact hap)
  have fin : LogS (w5.setCell ⟨L, 10, none⟩ v5) X L K O G n (T + 2 + 2 * m) (latK It ver lat m) (ver + m) (num + 1) ∧ Chg X (fun _ => True) w (w5.setCell ⟨L, 10, none⟩ v5) := by
    refine ⟨⟨_, It, l1.mono (by omega), by simpa using d1, by simpa using d2, by simpa using d11, .inl (by simpa using d8)⟩, (hc2.mono fun _ hf => hf.elim).trans ((hc3.mono fun _ _ => trivial).trans (l2.mono fun _ _ => trivial))⟩
  obtain ⟨g5, o5, cp5, rfl⟩ := hap.val
  have zL5 := hL5.frozen
  have s10 := hL5.cell (i := 10) (by omega)
  have s9 : w5.cell? ⟨L, 9, none⟩ = some (.slice ta mt tc) := (hL5.cell (i := 9) (by omega)).trans (by rw [et])
  have lL := L3.st.blk.lt
  go_wp2_with fail
  go_region
  all_goals refine ?main
  go_wp2
  go_ret
  exact ⟨_, rfl, fin⟩

#print axioms commit_any
end Go.Proofs.Ybulkbzcc
