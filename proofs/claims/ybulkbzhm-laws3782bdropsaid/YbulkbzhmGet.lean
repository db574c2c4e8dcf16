/-
  byNumber.get(n) for the numbers 0, 1, 2: by lock (19), by thread (20).
-/
import Derived.Test.YbulkbzhmPlace
import Derived.Deep.RegionWith
import Derived.Laws.MakeOwn
import Derived.Deep.LoopGhost
namespace Go.Proofs.Ybulkbzhm
set_option linter.unusedSectionVars false
variable [Base]
open Go.RowKit
open Go.WideShapes (add_plain)

theorem one_new (w : World) (a : Value) (t : TypeId) : ∀ j, j < 1 → (w.alloc (.cells #[a] t)).cell? ((⟨w.heap.size, 0, none⟩ : Addr).add j) = some a := by
  intro j hj
  have : j = 0 := by omega
  subst this
  simp [add_plain]

theorem SliceIs.drew {w : World} {e : TypeId} {s : Nat} {v : Value} {n : Nat} {x : Nat → Value} (h : SliceIs w e s v n x) : SliceIs w.drew e s v n x := h.of_block fun _ _ => rfl
theorem SliceIs.drewN {w : World} {e : TypeId} {s : Nat} {v : Value} {n : Nat} {x : Nat → Value} (h : SliceIs w e s v n x) (m : Nat) : SliceIs (w.drewN m) e s v n x := h.of_block fun _ _ => rfl
theorem Blk.drewN {w : World} {g : Nat} {e : TypeId} {sz : Nat} {c : Nat → Value} (h : Blk w g e sz c) (m : Nat) : Blk (w.drewN m) g e sz c := h.of_block rfl

theorem Appended.val {w w' : World} {e : TypeId} {s : Nat} {v v' : Value} {n : Nat} {nw : Nat → Value} (h : Appended w w' e s v v' n nw) : ∃ g o cap, v' = .slice (some ⟨g, o, none⟩) (n + 1) cap := by
  rcases h with ⟨g, o, cap, _, _, rfl, _⟩ | ⟨cap, c', rfl, _⟩
  · exact ⟨g, o, cap, rfl⟩
  · exact ⟨_, _, cap, rfl⟩

set_option maxRecDepth 100000 in
theorem get19_there (D f SG LS c n : Nat) (w : World) (hn : n ≤ 2) (h0 : w.cell? ⟨D, f, none⟩ = some (.slice (some ⟨SG, 0, none⟩) 1 c)) (h1 : w.cell? ⟨SG, 0, none⟩ = some (.slice (some ⟨LS, 0, none⟩) 64 64)) :
    Calls Yba.prog 19 #[.pointer (some ⟨D, f, none⟩), .int .i64 (n : Int)] w fun e w' => e = .returned (.pointer (some ⟨LS, n * 4, none⟩)) ∧ ∃ m, w' = w.drewN m := by
  have hnI : (n : Int) < 64 := by omega
  go_enter Yba.func19, Yba.ntmps19
  go_wp2_with (go_at_call 33; refine (place_small n _ hn).mono ?_; rintro e w' ⟨rfl, m, rfl⟩)
  go_loopw [] (fun wr => wr = w.drewN m) (fun _ => 0)
  case atStart => rfl
  case round =>
    subst hrel
    go_wp2
    go_ret
    exact ⟨rfl, _, rfl⟩

set_option maxRecDepth 100000 in
theorem get20_there (D f SG LS c n : Nat) (w : World) (hn : n ≤ 2) (h0 : w.cell? ⟨D, f, none⟩ = some (.slice (some ⟨SG, 0, none⟩) 1 c)) (h1 : w.cell? ⟨SG, 0, none⟩ = some (.slice (some ⟨LS, 0, none⟩) 64 64)) :
    Calls Yba.prog 20 #[.pointer (some ⟨D, f, none⟩), .int .i64 (n : Int)] w fun e w' => e = .returned (.pointer (some ⟨LS, n * 8, none⟩)) ∧ ∃ m, w' = w.drewN m := by
  have hnI : (n : Int) < 64 := by omega
  go_enter Yba.func20, Yba.ntmps20
  go_wp2_with (go_at_call 33; refine (place_small n _ hn).mono ?_; rintro e w' ⟨rfl, m, rfl⟩)
  go_loopw [] (fun wr => wr = w.drewN m) (fun _ => 0)
  case atStart => rfl
  case round =>
    subst hrel
    go_wp2
    go_ret
    exact ⟨rfl, _, rfl⟩

theorem info93 : (Yba.prog.info? 93).map (fun i => (i.zero, i.size, i.bytes)) = some (some (.agg #[.slice none 0 0, .int .i64 0, .int .i64 0, .slice none 0 0]), 4, 64) := by kernel_rfl
theorem info104 : (Yba.prog.info? 104).map (fun i => (i.zero, i.size, i.bytes)) = some (some (.agg #[.slice none 0 0, .int .i64 0, .int .i64 0, .slice none 0 0, .slice none 0 0, .slice none 0 0, .slice none 0 0, .map none]), 8, 144) := by kernel_rfl
theorem info121 : (Yba.prog.info? 121).map (fun i => (i.zero, i.size, i.bytes)) = some (some (.slice none 0 0), 1, 24) := by kernel_rfl
theorem info123 : (Yba.prog.info? 123).map (fun i => (i.zero, i.size, i.bytes)) = some (some (.slice none 0 0), 1, 24) := by kernel_rfl

/-- The cells of a new array of locks; of threads. -/
def zeroL (j : Nat) : Value := if j % 4 = 0 ∨ j % 4 = 3 then .slice none 0 0 else .int .i64 0
def zeroT (j : Nat) : Value := if j % 8 = 1 ∨ j % 8 = 2 then .int .i64 0 else if j % 8 = 7 then .map none else .slice none 0 0

theorem made_get (z : Array Value) (n i : Nat) (hi : i < n) (hz : 0 < z.size) : (madeCells z n)[i]? = z[i % z.size]? := by
  have h2 : i % z.size < z.size := Nat.mod_lt _ hz
  simp [madeCells, hi, h2]

theorem make93 : ∃ cur : Array Value, cur.size = 256 ∧ (∀ i, i < 256 → cur[i]? = some (zeroL i)) ∧ ∀ wx, (Instr.makeSlice 121 (.int .i64 64) (.int .i64 64)).run Yba.prog wx = .ok (.slice (some ⟨wx.heap.size, 0, none⟩) 64 64) (wx.alloc (.cells cur 93)) := by
  obtain ⟨i0, hi0, hz0, hz1, hz2⟩ := info_parts info93
  refine ⟨madeCells #[.slice none 0 0, .int .i64 0, .int .i64 0, .slice none 0 0] 256, size_madeCells _ _, fun i hi => ?_, fun wx => ?_⟩
  · rw [made_get _ _ _ hi (by decide)]
    have h4 : i % 4 = 0 ∨ i % 4 = 1 ∨ i % 4 = 2 ∨ i % 4 = 3 := by omega
    rcases h4 with h | h | h | h <;> simp [h, zeroL]
  · have hr := run_make (P := Yba.prog) wx 121 93 i0 _ Yba.underlying121 hi0 hz0 .i64 .i64 64 64 (by omega) (by omega) (by rw [hz2]; omega) (by omega)
    rw [hr, hz1]
    simp [Value.cells]

theorem make104 : ∃ cur : Array Value, cur.size = 512 ∧ (∀ i, i < 512 → cur[i]? = some (zeroT i)) ∧ ∀ wx, (Instr.makeSlice 123 (.int .i64 64) (.int .i64 64)).run Yba.prog wx = .ok (.slice (some ⟨wx.heap.size, 0, none⟩) 64 64) (wx.alloc (.cells cur 104)) := by
  obtain ⟨i0, hi0, hz0, hz1, hz2⟩ := info_parts info104
  refine ⟨madeCells #[.slice none 0 0, .int .i64 0, .int .i64 0, .slice none 0 0, .slice none 0 0, .slice none 0 0, .slice none 0 0, .map none] 512, size_madeCells _ _, fun i hi => ?_, fun wx => ?_⟩
  · rw [made_get _ _ _ hi (by decide)]
    have h8 : i % 8 = 0 ∨ i % 8 = 1 ∨ i % 8 = 2 ∨ i % 8 = 3 ∨ i % 8 = 4 ∨ i % 8 = 5 ∨ i % 8 = 6 ∨ i % 8 = 7 := by omega
    rcases h8 with h | h | h | h | h | h | h | h <;> simp [h, zeroT]
  · have hr := run_make (P := Yba.prog) wx 123 104 i0 _ Yba.underlying123 hi0 hz0 .i64 .i64 64 64 (by omega) (by omega) (by rw [hz2]; omega) (by omega)
    rw [hr, hz1]
    simp [Value.cells]

attribute [-go_sem] Builtin.append_ in
set_option maxRecDepth 100000 in
set_option maxHeartbeats 1000000 in
theorem get19_fresh (D f n : Nat) (c : Nat → Value) (w : World) (hn : n ≤ 2) (hf : f < 9) (hD : Blk w D 56 9 c) (h0 : c f = .slice none 0 0) :
    Calls Yba.prog 19 #[.pointer (some ⟨D, f, none⟩), .int .i64 (n : Int)] w fun e w' => ∃ SG LS cap cs sz, e = .returned (.pointer (some ⟨LS, n * 4, none⟩)) ∧ w.heap.size ≤ SG ∧ w.heap.size ≤ LS ∧
      Blk w' D 56 9 (fun j => if j = f then .slice (some ⟨SG, 0, none⟩) 1 cap else c j) ∧ Blk w' SG 121 sz cs ∧ 0 < sz ∧ cs 0 = .slice (some ⟨LS, 0, none⟩) 64 64 ∧ Blk w' LS 93 256 zeroL ∧
      w'.os = w.os ∧ w'.tape = w.tape ∧ w'.output = w.output ∧ w.heap.size ≤ w'.heap.size ∧ ∀ g, g < w.heap.size → g ≠ D → w'.heap[g]? = w.heap[g]? := by
  have hnI : (n : Int) < 64 := by omega
  obtain ⟨cur, sC, cC, hmk⟩ := make93
  have q0 : w.cell? ⟨D, f, none⟩ = some (.slice none 0 0) := (hD.cell hf).trans (by rw [h0])
  have zD := hD.frozen
  have lD := hD.lt
  go_enter Yba.func19, Yba.ntmps19
  go_wp2_with (go_at_call 33; refine (place_small n _ hn).mono ?_; rintro e w' ⟨rfl, m, rfl⟩)
  go_loopg [] 1 (fun g wr => (g = 1 ∧ wr = w.drewN m) ∨ (g = 0 ∧ ∃ SG LS cap cs sz, w.heap.size ≤ SG ∧ w.heap.size ≤ LS ∧
      Blk wr D 56 9 (fun j => if j = f then .slice (some ⟨SG, 0, none⟩) 1 cap else c j) ∧ Blk wr SG 121 sz cs ∧ 0 < sz ∧ cs 0 = .slice (some ⟨LS, 0, none⟩) 64 64 ∧ Blk wr LS 93 256 zeroL ∧
      wr.os = w.os ∧ wr.tape = w.tape ∧ wr.output = w.output ∧ w.heap.size ≤ wr.heap.size ∧ ∀ g : Nat, g < w.heap.size → g ≠ D → wr.heap[g]? = w.heap[g]?))
  case atStart => exact .inl ⟨rfl, rfl⟩
  case round =>
    rcases hrel with ⟨rfl, rfl⟩ | ⟨rfl, SG, LS, cap, cs, sz, l1, l2, b1, b2, hsz, hcs, b3, r⟩
    · have hD0 : Blk (w.drewN m) D 56 9 c := hD.drewN m
      have HE : Hid ((w.drewN m).heap.size = w.heap.size ∧ (∀ g : Nat, (w.drewN m).heap[g]? = w.heap[g]?) ∧ (w.drewN m).os = w.os ∧ (w.drewN m).tape = w.tape ∧ (w.drewN m).output = w.output) := ⟨rfl, fun _ => rfl, rfl, rfl, rfl⟩
      generalize w.drewN m = w0 at hD0 HE ⊢
      have q0 : w0.cell? ⟨D, f, none⟩ = some (.slice none 0 0) := (hD0.cell hf).trans (by rw [h0])
      have zD := hD0.frozen
      have lD := hD0.lt
      have ew : IntKind.i64.wrap 64 = 64 := by decide
      obtain ⟨v1, w1, hr, ha⟩ := run_append1 (P := Yba.prog) ((w0.alloc (.cells cur 93)).alloc (.cells #[.slice (some ⟨w0.heap.size, 0, none⟩) 64 64] 121)).drew (by have := hD0.room; simp; omega) 32 32 121 Yba.underlying32 info121 rfl (.slice none 0 0) 0 (fun _ => undef) (SliceIs.nil _ _ _ _) ⟨w0.heap.size + 1, 0, none⟩ 1 (fun _ => .slice (some ⟨w0.heap.size, 0, none⟩) 64 64) (by have := one_new (w0.alloc (.cells cur 93)) (.slice (some ⟨w0.heap.size, 0, none⟩) 64 64) 121; simpa using this) (fun _ _ => rfl) (by omega) (by decide)
      rcases ha with ⟨_, _, _, hv, _⟩ | ⟨cap, c1, rfl, hc1, hc2, hg, hs1, hb1, hn1, _⟩
      · simp at hv
      have hD1 : Blk w1 D 56 9 c := ((hD0.alloc _).alloc _).of_block (hg.block D (by simp; omega) (by simp))
      have zD1 := hD1.frozen
      have qD1 := hD1.cell hf
      simp only [World.size_drew, World.size_alloc] at hr hb1 hs1
      go_wp2_with fail
      go_region
      all_goals refine ?main
      go_wp2_with fail
      go_roundg 0
      case measure => omega
      case rel =>
        obtain ⟨es, eb, eo, et, eu⟩ := HE.out
        have hLS1 : Blk w1 w0.heap.size 93 256 zeroL := ((Blk.new w0 cur 93 hD0.room sC cC).alloc _).of_block (hg.block w0.heap.size (by simp; omega) (by simp))
        have n1 : w0.heap.size + 1 + 1 ≠ D := by omega
        have n2 : w0.heap.size ≠ D := by omega
        refine .inr ⟨rfl, w0.heap.size + 1 + 1, w0.heap.size, cap, c1, cap * 1, by omega, by omega, hD1.set f _, hb1.set_other (a := ⟨D, f, none⟩) n1 _, by omega, by simpa using hn1 0 (by omega), hLS1.set_other (a := ⟨D, f, none⟩) n2 _, hg.os.trans eo, hg.tape.trans et, hg.output.trans eu, by simp; omega, fun g hg1 hg2 => ?_⟩
        rw [heap_setCell_other _ _ _ _ hg2]
        exact (hg.block g (by simp; omega) (by simp)).trans ((Below.heap_alloc _ _ _ (by simp; omega)).trans ((Below.heap_alloc _ _ _ (by omega)).trans (eb g)))
    · have g0 : wr.cell? ⟨D, f, none⟩ = some (.slice (some ⟨SG, 0, none⟩) 1 cap) := (b1.cell hf).trans (by simp)
      have g1 : wr.cell? ⟨SG, 0, none⟩ = some (.slice (some ⟨LS, 0, none⟩) 64 64) := (b2.cell hsz).trans (by rw [hcs])
      go_wp2
      go_ret
      exact ⟨SG, LS, cap, cs, sz, rfl, l1, l2, b1, b2, hsz, hcs, b3, r⟩

attribute [-go_sem] Builtin.append_ in
set_option maxRecDepth 100000 in
set_option maxHeartbeats 1000000 in
theorem get20_fresh (D f n : Nat) (c : Nat → Value) (w : World) (hn : n ≤ 2) (hf : f < 9) (hD : Blk w D 56 9 c) (h0 : c f = .slice none 0 0) :
    Calls Yba.prog 20 #[.pointer (some ⟨D, f, none⟩), .int .i64 (n : Int)] w fun e w' => ∃ SG LS cap cs sz, e = .returned (.pointer (some ⟨LS, n * 8, none⟩)) ∧ w.heap.size ≤ SG ∧ w.heap.size ≤ LS ∧
      Blk w' D 56 9 (fun j => if j = f then .slice (some ⟨SG, 0, none⟩) 1 cap else c j) ∧ Blk w' SG 123 sz cs ∧ 0 < sz ∧ cs 0 = .slice (some ⟨LS, 0, none⟩) 64 64 ∧ Blk w' LS 104 512 zeroT ∧
      w'.os = w.os ∧ w'.tape = w.tape ∧ w'.output = w.output ∧ w.heap.size ≤ w'.heap.size ∧ ∀ g, g < w.heap.size → g ≠ D → w'.heap[g]? = w.heap[g]? := by
  have hnI : (n : Int) < 64 := by omega
  obtain ⟨cur, sC, cC, hmk⟩ := make104
  have q0 : w.cell? ⟨D, f, none⟩ = some (.slice none 0 0) := (hD.cell hf).trans (by rw [h0])
  have zD := hD.frozen
  have lD := hD.lt
  go_enter Yba.func20, Yba.ntmps20
  go_wp2_with (go_at_call 33; refine (place_small n _ hn).mono ?_; rintro e w' ⟨rfl, m, rfl⟩)
  go_loopg [] 1 (fun g wr => (g = 1 ∧ wr = w.drewN m) ∨ (g = 0 ∧ ∃ SG LS cap cs sz, w.heap.size ≤ SG ∧ w.heap.size ≤ LS ∧
      Blk wr D 56 9 (fun j => if j = f then .slice (some ⟨SG, 0, none⟩) 1 cap else c j) ∧ Blk wr SG 123 sz cs ∧ 0 < sz ∧ cs 0 = .slice (some ⟨LS, 0, none⟩) 64 64 ∧ Blk wr LS 104 512 zeroT ∧
      wr.os = w.os ∧ wr.tape = w.tape ∧ wr.output = w.output ∧ w.heap.size ≤ wr.heap.size ∧ ∀ g : Nat, g < w.heap.size → g ≠ D → wr.heap[g]? = w.heap[g]?))
  case atStart => exact .inl ⟨rfl, rfl⟩
  case round =>
    rcases hrel with ⟨rfl, rfl⟩ | ⟨rfl, SG, LS, cap, cs, sz, l1, l2, b1, b2, hsz, hcs, b3, r⟩
    · have hD0 : Blk (w.drewN m) D 56 9 c := hD.drewN m
      have HE : Hid ((w.drewN m).heap.size = w.heap.size ∧ (∀ g : Nat, (w.drewN m).heap[g]? = w.heap[g]?) ∧ (w.drewN m).os = w.os ∧ (w.drewN m).tape = w.tape ∧ (w.drewN m).output = w.output) := ⟨rfl, fun _ => rfl, rfl, rfl, rfl⟩
      generalize w.drewN m = w0 at hD0 HE ⊢
      have q0 : w0.cell? ⟨D, f, none⟩ = some (.slice none 0 0) := (hD0.cell hf).trans (by rw [h0])
      have zD := hD0.frozen
      have lD := hD0.lt
      have ew : IntKind.i64.wrap 64 = 64 := by decide
      obtain ⟨v1, w1, hr, ha⟩ := run_append1 (P := Yba.prog) ((w0.alloc (.cells cur 104)).alloc (.cells #[.slice (some ⟨w0.heap.size, 0, none⟩) 64 64] 123)).drew (by have := hD0.room; simp; omega) 35 35 123 Yba.underlying35 info123 rfl (.slice none 0 0) 0 (fun _ => undef) (SliceIs.nil _ _ _ _) ⟨w0.heap.size + 1, 0, none⟩ 1 (fun _ => .slice (some ⟨w0.heap.size, 0, none⟩) 64 64) (by have := one_new (w0.alloc (.cells cur 104)) (.slice (some ⟨w0.heap.size, 0, none⟩) 64 64) 123; simpa using this) (fun _ _ => rfl) (by omega) (by decide)
      rcases ha with ⟨_, _, _, hv, _⟩ | ⟨cap, c1, rfl, hc1, hc2, hg, hs1, hb1, hn1, _⟩
      · simp at hv
      have hD1 : Blk w1 D 56 9 c := ((hD0.alloc _).alloc _).of_block (hg.block D (by simp; omega) (by simp))
      have zD1 := hD1.frozen
      have qD1 := hD1.cell hf
      simp only [World.size_drew, World.size_alloc] at hr hb1 hs1
      go_wp2_with fail
      go_region
      all_goals refine ?main
      go_wp2_with fail
      go_roundg 0
      case measure => omega
      case rel =>
        obtain ⟨es, eb, eo, et, eu⟩ := HE.out
        have hLS1 : Blk w1 w0.heap.size 104 512 zeroT := ((Blk.new w0 cur 104 hD0.room sC cC).alloc _).of_block (hg.block w0.heap.size (by simp; omega) (by simp))
        have n1 : w0.heap.size + 1 + 1 ≠ D := by omega
        have n2 : w0.heap.size ≠ D := by omega
        refine .inr ⟨rfl, w0.heap.size + 1 + 1, w0.heap.size, cap, c1, cap * 1, by omega, by omega, hD1.set f _, hb1.set_other (a := ⟨D, f, none⟩) n1 _, by omega, by simpa using hn1 0 (by omega), hLS1.set_other (a := ⟨D, f, none⟩) n2 _, hg.os.trans eo, hg.tape.trans et, hg.output.trans eu, by simp; omega, fun g hg1 hg2 => ?_⟩
        rw [heap_setCell_other _ _ _ _ hg2]
        exact (hg.block g (by simp; omega) (by simp)).trans ((Below.heap_alloc _ _ _ (by simp; omega)).trans ((Below.heap_alloc _ _ _ (by omega)).trans (eb g)))
    · have g0 : wr.cell? ⟨D, f, none⟩ = some (.slice (some ⟨SG, 0, none⟩) 1 cap) := (b1.cell hf).trans (by simp)
      have g1 : wr.cell? ⟨SG, 0, none⟩ = some (.slice (some ⟨LS, 0, none⟩) 64 64) := (b2.cell hsz).trans (by rw [hcs])
      go_wp2
      go_ret
      exact ⟨SG, LS, cap, cs, sz, rfl, l1, l2, b1, b2, hsz, hcs, b3, r⟩

end Go.Proofs.Ybulkbzhm
