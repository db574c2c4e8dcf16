/-
  record(1, t, nil): t's writes, one after the other; then collect.
-/
import Derived.Test.YbulkbzccLogC
import Derived.Deep.DeepCutAuto
import Derived.WalkSpells
import Derived.Deep.CutRange
import Derived.Deep.CutBlock
import Derived.Deep.Cut
namespace Go.Proofs.Ybulkbzcc
open Go.RowKit
open Go.WideShapes (add_plain)

theorem info29 : (Yba.prog.info? 29).map (fun i => (i.zero, i.size, i.bytes)) = some (some (.slice none 0 0), 1, 24) := by kernel_rfl
theorem info100 : (Yba.prog.info? 100).map (fun i => (i.zero, i.size, i.bytes)) = some (some (.agg #[.int .i64 0, .bool false, .int .i64 0, .int .i64 0]), 4, 32) := by kernel_rfl

theorem neq28 (w : World) : (binOp .neq 28 (.slice none 0 0) (.slice none 0 0)).run Yba.prog w = .ok (.bool false) w := by
  rw [run_neq_slice_nil_any w 28 3 none 0 0 0 0 Yba.underlying28]
  rfl

/-- The latest versions behind the first k of the writes. -/
def latK (It : Nat → Nat) (ver : Int) (lat : Nat → Int) : Nat → Nat → Int
  | 0 => lat
  | k + 1 => fun j => if j = It k then ver + k + 1 else latK It ver lat k j

/-- The events of the writes. -/
def writeCell (It : Nat → Nat) (ver : Int) (j : Nat) : Value :=
  if j % 3 = 0 then .bool true else if j % 3 = 1 then .int .i64 (It (j / 3) : Int) else .int .i64 (ver + (j / 3 : Nat) + 1)

/-- Within a round of record. -/
def EvS (w0 : World) (X : Nat → Prop) (L K O G n T : Nat) (lat : Nat → Int) (cnt : Nat → Nat) (nq : Nat) (qi : Nat → Nat) (ver num : Int) (e0 it : Nat) (vv : Int) (wx : World) : Prop :=
  ∃ c, LogC wx X L K O G n T c lat cnt nq qi ∧ c 1 = .int .i64 ver ∧ c 2 = .int .i64 num ∧ c 8 = .int .i64 1 ∧ c 11 = .slice none 0 0 ∧ Blk wx e0 32 3 (three (.bool true) (.int .i64 (it : Int)) (.int .i64 vv)) ∧ Chg X Er w0 wx

/-- Between the rounds. -/
def RdS (w0 : World) (X : Nat → Prop) (L K O G n T : Nat) (lat : Nat → Int) (cnt : Nat → Nat) (nq : Nat) (qi : Nat → Nat) (ver num : Int) (wx : World) : Prop :=
  ∃ c, LogC wx X L K O G n T c lat cnt nq qi ∧ c 1 = .int .i64 ver ∧ c 2 = .int .i64 num ∧ c 8 = .int .i64 1 ∧ c 11 = .slice none 0 0 ∧ Chg X Er w0 wx

theorem Wf.val {w : World} {X : Nat → Prop} {e : TypeId} {s : Nat} {v : Value} {m : Nat} (h : Wf w X e s v m) : ∃ a cp, v = .slice a m cp := by
  obtain ⟨⟨x, hx⟩, _⟩ := h
  rcases hx with ⟨rfl, rfl⟩ | ⟨g, o, cap, sz, c, rfl, _⟩
  · exact ⟨_, _, rfl⟩
  · exact ⟨_, _, rfl⟩

theorem LogC.qi0 {w : World} {X : Nat → Prop} {L K O G n T : Nat} {c : Nat → Value} {lat : Nat → Int} {cnt : Nat → Nat} {qi : Nat → Nat} (h : LogC w X L K O G n T c lat cnt 0 qi) (qi' : Nat → Nat) : LogC w X L K O G n T c lat cnt 0 qi' := by
  obtain ⟨⟨hb, nX, c3, hk, c5, c6, c7, ⟨x, hq, hqi⟩, qX⟩, r1, r2, r3, r4, r5, r6, r7, r8, r9⟩ := h
  exact ⟨⟨hb, nX, c3, hk, c5, c6, c7, ⟨x, hq, fun j hj => by omega⟩, qX⟩, r1, r2, r3, r4, r5, r6, r7, r8, r9⟩

theorem SliceIs.drew {w : World} {e : TypeId} {s : Nat} {v : Value} {n : Nat} {x : Nat → Value} (h : SliceIs w e s v n x) : SliceIs w.drew e s v n x := h.of_block fun _ _ => rfl
theorem SliceIs.drewN {w : World} {e : TypeId} {s : Nat} {v : Value} {n : Nat} {x : Nat → Value} (h : SliceIs w e s v n x) (m : Nat) : SliceIs (w.drewN m) e s v n x := h.of_block fun _ _ => rfl

/-- append of one element as one step of a region that draws. -/
theorem step_append_any {P : Program} {ops : Array Oper} {o : Oper} {a : Act} {w : World} {K : Act → World → Prop} {Q : Exit → Act → World → Prop} {E : Prop}
    (hg : o.guard = none) (s' x' : Operand) (t : TypeId) (hop : o.op = Op.call { callee := Callee.builtin Builtin.append, args := #[s', x'], argTypes := #[t, t] })
    (e : TypeId) {z : Value} {s bytes : Nat} (ht : P.underlying t = some (.slice e)) (hi : (P.info? e).map (fun i => (i.zero, i.size, i.bytes)) = some (some z, s, bytes)) (hzs : z.cells.size = s)
    (v : Value) (n : Nat) (x : Nat → Value) (hs : a.eval s' = v) (hv : SliceIs w e s v n x) (ad : Addr) (cc : Nat) (nw : Nat → Value) (hx : a.eval x' = .slice (some ad) 1 cc) (hnw : ∀ j, j < s → w.cell? (ad.add j) = some (nw j)) (h1 : ∀ j, j < s → (nw j).oneCell' = true)
    (hbytes : (n + 1) * bytes ≤ 140737488355328) (hmax : n + 1 ≤ maxLen)
    (hK : ∀ v' w', Appended w w' e s v v' n nw → K (a.put o.dst v') w') :
    if Region.wanted o (yielded ops a.tmps) = true then Oper.wp P o a w K Q else E := by
  obtain ⟨v', w', hr, h2⟩ := run_append1 (P := P) w t o.type e ht hi hzs v n x hv ad cc nw hnw h1 hbytes hmax
  exact step_append1 hg s' x' t hop v _ v' w' hs hx hr (hK v' w' h2)

theorem Er75 {X : Nat → Prop} {w w1 : World} (h : Chg X (fun e => e = 75) w w1) : Chg X Er w w1 := h.mono fun _ he => .inl he

theorem StoreC.congr {w : World} {X : Nat → Prop} {L K n : Nat} {c : Nat → Value} {lat lat' : Nat → Int} {cnt cnt' : Nat → Nat} {nq : Nat} {qi qi' : Nat → Nat} (h : StoreC w X L K n c lat cnt nq qi) (h1 : ∀ i, i ≤ n → lat i = lat' i) (h2 : ∀ i, i ≤ n → cnt i = cnt' i) (h3 : ∀ j, j < nq → qi j = qi' j) : StoreC w X L K n c lat' cnt' nq qi' := by
  obtain ⟨hb, nX, c3, hk, c5, c6, c7, ⟨x, hq, hqi⟩, qX⟩ := h
  exact ⟨hb, nX, c3, hk.congr h1 h2, c5, c6, c7, ⟨x, hq, fun j hj => by rw [← h3 j hj]; exact hqi j hj⟩, qX⟩

/-- A new block of four cells. -/
def four (a b c d : Value) (j : Nat) : Value := if j = 0 then a else if j = 1 then b else if j = 2 then c else d

theorem four_new (w : World) (a b c d : Value) (t : TypeId) : ∀ j, j < 4 → (w.alloc (.cells #[a, b, c, d] t)).cell? ((⟨w.heap.size, 0, none⟩ : Addr).add j) = some (four a b c d j) := by
  intro j hj
  have : j = 0 ∨ j = 1 ∨ j = 2 ∨ j = 3 := by omega
  rcases this with rfl | rfl | rfl | rfl <;> simp [add_plain, four]

theorem four_cell {a b c d : Value} (ha : a.oneCell' = true) (hb : b.oneCell' = true) (hc : c.oneCell' = true) (hd : d.oneCell' = true) : ∀ j, j < 4 → (four a b c d j).oneCell' = true := by
  intro j hj
  have : j = 0 ∨ j = 1 ∨ j = 2 ∨ j = 3 := by omega
  rcases this with rfl | rfl | rfl | rfl <;> simp [four, ha, hb, hc, hd]

theorem one_new (w : World) (a : Value) (t : TypeId) : ∀ j, j < 1 → (w.alloc (.cells #[a] t)).cell? ((⟨w.heap.size, 0, none⟩ : Addr).add j) = some a := by
  intro j hj
  have : j = 0 := by omega
  subst this
  simp [add_plain]

attribute [-go_sem] Builtin.append_ in
set_option maxRecDepth 100000 in
set_option maxHeartbeats 8000000 in
theorem record_any (X : Nat → Prop) (L K O G n T m : Nat) (c : Nat → Value) (lat : Nat → Int) (It : Nat → Nat) (qi : Nat → Nat) (ver num : Int) (t : Value) (x : Nat → Value) (w : World)
    (h : LogC w X L K O G n T c lat (fun _ => 0) 0 qi) (hcy : CycOK c) (c1 : c 1 = .int .i64 ver) (c2 : c 2 = .int .i64 num) (hX : ∀ g, X g → g < w.heap.size)
    (ht : SliceIs w 32 3 t m x) (hx : ∀ j, j < m * 3 → x j = writeCell It ver j) (hit : ∀ j, j < m → It j ≤ n) (hT : T ≤ 100000) (hm : m ≤ 10000) (hn : n ≤ 10000) (hnum : 0 ≤ num ∧ num ≤ 1000000) (_hver : 0 ≤ ver ∧ ver ≤ 1000000000) :
    Calls Yba.prog 19 #[.pointer (some ⟨L, 0, none⟩), .int .i64 1, t, .slice none 0 0] w fun e w' => e = .returned (.tuple #[]) ∧ RdS w X L K O G n (T + 1 + 2 * m) (latK It ver lat m) (fun _ => 0) 0 It (ver + m) (num + 1) w' := by
  obtain ⟨tta, ttc, rfl⟩ : ∃ a cp, t = .slice a m cp := by
    rcases ht with ⟨rfl, rfl⟩ | ⟨g, o, cap, sz, cc, rfl, _⟩
    · exact ⟨_, _, rfl⟩
    · exact ⟨_, _, rfl⟩
  go_enter Yba.func19, Yba.ntmps19
  go_wp2_with fail
  refine (open_any X L c w h.st.blk h.st.nX hcy).mono ?_
  rintro e w1 ⟨rfl, hb1, hc1⟩
  have h1 : LogC w1 X L K O G n T _ lat (fun _ => 0) 0 qi := h.cell hb1 (fun j _ _ j8 => by simp [j8]) hc1
  have hX1 : ∀ g, X g → g < w1.heap.size := fun g hg => Nat.lt_of_lt_of_le (hX g hg) hc1.size
  obtain ⟨mt, hmt, hwt⟩ := h1.txns
  obtain ⟨ta, tcp, etx⟩ := hwt.val
  simp only [show ¬ (9 : Nat) = 8 by decide, if_false] at etx
  have r2 : w1.cell? ⟨L, 2, none⟩ = some (.int .i64 num) := (hb1.cell (i := 2) (by omega)).trans (by simp [c2])
  have r9 : w1.cell? ⟨L, 9, none⟩ = some (.slice ta mt tcp) := (hb1.cell (i := 9) (by omega)).trans (by simp [etx])
  have zL : ∀ j, w1.frozen? ⟨L, j, none⟩ = false := hb1.frozen
  have hb2 := hb1.set 2 (.int .i64 (num + 1))
  have hc2 := (Chg.refl X (fun e => e = 75) w1).setCell hb1 h.st.nX rfl 2 (.int .i64 (num + 1))
  have h2 := h1.cell hb2 (fun j _ j2 _ => by simp [j2]) hc2
  have hX2 : ∀ g, X g → g < (w1.setCell ⟨L, 2, none⟩ (.int .i64 (num + 1))).heap.size := fun g hg => by simpa using hX1 g hg
  simp only [show ¬ (9 : Nat) = 8 by decide, if_false] at hwt
  have hwt2 : Wf (w1.setCell ⟨L, 2, none⟩ (.int .i64 (num + 1))) X 29 1 (.slice ta mt tcp) mt := by rw [← etx]; exact hwt.chg hc2 (by decide)
  obtain ⟨xt, hxt⟩ := hwt2.1
  have hnew := one_new (w1.setCell ⟨L, 2, none⟩ (.int .i64 (num + 1))) (.slice tta m ttc) 29
  simp only [World.size_setCell] at hnew
  have ca := (Chg.refl X (fun _ => False) (w1.setCell ⟨L, 2, none⟩ (.int .i64 (num + 1)))).alloc hX2 (.cells #[.slice tta m ttc] 29)
  have fL : ∀ v2 w2, Appended ((w1.setCell ⟨L, 2, none⟩ (.int .i64 (num + 1))).alloc (.cells #[.slice tta m ttc] 29)) w2 29 1 (.slice ta mt tcp) v2 mt (fun _ => .slice tta m ttc) → Blk w2 L 75 15 (fun j => if j = 2 then .int .i64 (num + 1) else if j = 8 then .int .i64 1 else c j) := fun v2 w2 hap => ((Chg.refl X (fun t => t = 29) _).app (fun g hg => by have := hX2 g hg; simp at this ⊢; omega) (hxt.alloc _) hwt2.2 rfl hap).blk (hb2.alloc _) (by decide)
  go_wp2_with (at_builtin; refine wpList_append1 _ rfl _ _ 73 rfl 29 Yba.underlying73 info29 rfl (.slice ta mt tcp) mt xt rfl (hxt.alloc _) ⟨w1.heap.size, 0, none⟩ _ (fun _ => .slice tta m ttc) rfl hnew (fun _ _ => rfl) (by omega) (by unfold maxLen; omega) ?_; intro v2 w2 hap; obtain ⟨g2, o2, cp2, rfl⟩ := hap.val; have hL4 := fL _ _ hap; have zL4 := hL4.frozen; have s49 := hL4.cell (i := 9) (by omega))
  go_loopg [9, 40] m (fun g v9 i wr => ∃ k : Nat, k ≤ m ∧ g = m - k ∧ i = .int .i64 k ∧ v9 = .int .i64 k ∧ RdS w X L K O G n (T + 1 + 2 * k) (latK It ver lat k) (fun i => tot It i k) k It (ver + k) (num + 1) wr)
  case atStart =>
    obtain ⟨l1, l2⟩ := LogC.app (f := 9) (e := 29) h2 hX2 (.inl ⟨rfl, rfl⟩) ca (by simpa [etx] using hwt2) hmt (w1 := w2) (v' := .slice (some ⟨g2, o2, none⟩) (mt + 1) cp2) (nw := fun _ => .slice tta m ttc) (by simpa [etx] using hap)
    exact ⟨0, Nat.zero_le _, rfl, rfl, rfl, _, l1.qi0 It, by simp [c1], by simp, by simp, by simp [hcy.1], (Er75 hc1).trans ((Er75 hc2).trans l2)⟩
  case round =>
    clear hap hL4 zL4 s49 fL ca hnew hxt hwt2 hX2 h2 hc2 hb2 zL r9 r2 hwt etx hmt hX1 h1 hc1 hb1
    obtain ⟨k, hk, rfl, rfl, rfl, cr, hL, d1, d2, d8, d11, hcg⟩ := hrel
    by_cases hlt : k < m
    · have ht' : SliceIs wr 32 3 (.slice tta m ttc) m x := hcg.slice ht (by unfold Er; decide)
      obtain ⟨tb, tof, rfl, ycell⟩ : ∃ g o, tta = some ⟨g, o, none⟩ ∧ ∀ j, j < m * 3 → wr.cell? ⟨g, o + j, none⟩ = some (x j) := by
        rcases ht' with ⟨hv, h0⟩ | ⟨g, o, cap, sz, cc, hv, q2, q3, q4, q5, q6⟩
        · omega
        · simp at hv
          obtain ⟨rfl, rfl⟩ := hv
          have : m * 3 ≤ ttc * 3 := Nat.mul_le_mul_right _ q2
          exact ⟨g, o, rfl, fun j hj => (q4.cell (by omega)).trans (by rw [q6 j hj])⟩
      have m0 : (k * 3) % 3 = 0 := by omega
      have m1 : (k * 3 + 1) % 3 = 1 := by omega
      have m2 : (k * 3 + 2) % 3 = 2 := by omega
      have v1 : (k * 3 + 1) / 3 = k := by omega
      have v2 : (k * 3 + 2) / 3 = k := by omega
      have y0 : wr.cell? ⟨tb, tof + k * 3, none⟩ = some (.bool true) := (ycell _ (by omega)).trans (by rw [hx _ (by omega)]; simp [writeCell, m0])
      have y1 : wr.cell? ⟨tb, tof + k * 3 + 1, none⟩ = some (.int .i64 (It k : Int)) := by rw [Nat.add_assoc]; exact (ycell _ (by omega)).trans (by rw [hx _ (by omega)]; simp [writeCell, m1, v1])
      have y2 : wr.cell? ⟨tb, tof + k * 3 + 2, none⟩ = some (.int .i64 (ver + k + 1)) := by rw [Nat.add_assoc]; exact (ycell _ (by omega)).trans (by rw [hx _ (by omega)]; simp [writeCell, m2, v2])
      clear ycell m0 m1 m2 v1 v2
      have hXr : ∀ g, X g → g < wr.heap.size := fun g hg => Nat.lt_of_lt_of_le (hX g hg) hcg.size
      have hik := hit k hlt
      obtain ⟨co, bo, ho⟩ := hL.on
      obtain ⟨rm, hrm, hrw⟩ := ho (It k) hik
      obtain ⟨ra, rc, erow⟩ := hrw.val
      have f12 : wr.cell? ⟨L, 12, none⟩ = some (.slice (some ⟨O, 0, none⟩) (n + 1) (n + 1)) := (hL.st.blk.cell (i := 12) (by omega)).trans (by rw [hL.c12])
      have fo : wr.cell? ⟨O, It k, none⟩ = some (.slice ra rm rc) := (bo.cell (i := It k) (by omega)).trans (by rw [erow])
      have lL := hL.st.blk.lt
      have lO := bo.lt
      have hIt : ((It k : Nat) : Int) < (n : Int) + 1 := by omega
      go_upto_region 8 with fail
      go_quiet (fail)
      go_upto_if 53 with fail
      have hE : EvS w X L K O G n (T + 1 + 2 * k) (latK It ver lat k) (fun i => tot It i k) k It (ver + k) (num + 1) wr.heap.size (It k) (ver + k + 1) ((wr.alloc (.cells #[.bool true, .int .i64 (It k : Int), .int .i64 (ver + k + 1)] 32)).drewN nq) := by
        have cz : Chg X (fun _ => False) wr ((wr.alloc (.cells #[.bool true, .int .i64 (It k : Int), .int .i64 (ver + k + 1)] 32)).drewN nq) := ((Chg.refl X (fun _ => False) wr).alloc hXr _).drewN nq
        refine ⟨cr, hL.chg0 cz, d1, d2, d8, d11, (Blk.new wr _ 32 (sz := 3) rfl ?_).drewN nq, hcg.trans (cz.mono fun _ hf => hf.elim)⟩
        intro j hj
        have : j = 0 ∨ j = 1 ∨ j = 2 := by omega
        rcases this with rfl | rfl | rfl <;> rfl
      generalize hwy : (wr.alloc (.cells #[.bool true, .int .i64 (It k : Int), .int .i64 (ver + k + 1)] 32)).drewN nq = wy at hE ⊢
      clear hwy f12 fo lL lO y0 y1 y2 hrw erow bo ho hrm
      have e0lt := hE
      generalize wr.heap.size = e0 at hE ⊢
      clear e0lt hL d1 d2 d8 d11 hcg hXr
      go_cut [] (fun wx => EvS w X L K O G n (T + 1 + 2 * k + 1) (latK It ver lat k) (fun i => tot It i k) k It (ver + k) (num + 1) e0 (It k) (ver + k + 1) wx)
      case first =>
        obtain ⟨cy, ly, a1, a2, a8, a11, be, ce⟩ := hE
        have hXy : ∀ g, X g → g < wy.heap.size := fun g hg => Nat.lt_of_lt_of_le (hX g hg) ce.size
        by_cases h0 : rm = 0
        · subst h0
          obtain ⟨mtc, hmtc, hwtc⟩ := ly.touched
          obtain ⟨tca, tcc, etc⟩ := hwtc.val
          rw [etc] at hwtc
          obtain ⟨xtc, hxtc⟩ := hwtc.1
          have f14 : wy.cell? ⟨L, 14, none⟩ = some (.slice tca mtc tcc) := (ly.st.blk.cell (i := 14) (by omega)).trans (by rw [etc])
          have b1 : wy.cell? ⟨e0, 1, none⟩ = some (.int .i64 (It k : Int)) := be.cell (i := 1) (by omega)
          have cz : Chg X (fun _ => False) wy (wy.alloc (.cells #[.int .i64 (It k : Int)] 3)).drew := ((Chg.refl X (fun _ => False) wy).alloc hXy _).drew
          obtain ⟨v5, w5, hr5, hap⟩ := run_append1 (P := Yba.prog) (wy.alloc (.cells #[.int .i64 (It k : Int)] 3)).drew 28 28 3 Yba.underlying28 info3 rfl (.slice tca mtc tcc) mtc xtc (hxtc.alloc _).drew ⟨wy.heap.size, 0, none⟩ 1 (fun _ => .int .i64 (It k : Int)) (one_new wy _ 3) (fun _ _ => rfl) (by omega) (by unfold maxLen; omega)
          obtain ⟨g5, o5, cp5, rfl⟩ := hap.val
          have hL5 : Blk w5 L 75 15 cy := ((Chg.refl X (fun t => t = 3) _).app (fun g hg => by have := hXy g hg; simp; omega) (hxtc.alloc _).drew hwtc.2 rfl hap).blk (ly.st.blk.alloc _) (by decide)
          have zL5 := hL5.frozen
          have s14 := hL5.cell (i := 14) (by omega)
          have lL := ly.st.blk.lt
          have lE := be.lt
          go_wp2_with fail
          go_region
          all_goals
            go_wp2_with fail
            go_meet
            obtain ⟨l1, l2⟩ := LogC.app (f := 14) (e := 3) ly hXy (.inr (.inr ⟨rfl, rfl⟩)) cz (by rw [etc]; exact hwtc) hmtc (by rw [etc]; exact hap)
            exact ⟨_, l1, by simpa using a1, by simpa using a2, by simpa using a8, by simpa using a11, l2.blk be (by unfold Er; decide), ce.trans l2⟩
        · have h0' : ((rm : Int) == 0) = false := by simp; omega
          go_wp2_with fail
          go_meet
          exact ⟨cy, ly.mono (by omega), a1, a2, a8, a11, be, ce⟩
      case rest =>
        clear hE
        obtain ⟨cy, ly, a1, a2, a8, a11, be, ce⟩ := hcut
        have hXy : ∀ g, X g → g < wc.heap.size := fun g hg => Nat.lt_of_lt_of_le (hX g hg) ce.size
        obtain ⟨cg, bg⟩ := ly.begun
        have b0 : wc.cell? ⟨e0, 0, none⟩ = some (.bool true) := be.cell (i := 0) (by omega)
        have b1 : wc.cell? ⟨e0, 1, none⟩ = some (.int .i64 (It k : Int)) := be.cell (i := 1) (by omega)
        have f13 : wc.cell? ⟨L, 13, none⟩ = some (.slice (some ⟨G, 0, none⟩) (n + 1) (n + 1)) := (ly.st.blk.cell (i := 13) (by omega)).trans (by rw [ly.c13])
        have fg : wc.cell? ⟨G, It k, none⟩ = some (.int .i64 (cg (It k))) := bg.cell (i := It k) (by omega)
        go_upto_region 11 with fail
        go_quiet (fail)
        go_upto_if 75 with fail
        have cz0 : Chg X (fun _ => False) wc (wc.drewN nq) := (Chg.refl X (fun _ => False) wc).drewN nq
        have ly2 := ly.chg0 cz0
        have be2 := be.drewN nq
        have ce2 := ce.drewN nq
        have bg2 := bg.drewN nq
        clear ly be ce bg b0 b1 f13 fg hXy cz0
        generalize wc.drewN nq = wz at ly2 be2 ce2 bg2 ⊢
        have hXz : ∀ g, X g → g < wz.heap.size := fun g hg => Nat.lt_of_lt_of_le (hX g hg) ce2.size
        go_cut [] (fun wx => EvS w X L K O G n (T + 1 + 2 * k + 1) (latK It ver lat k) (fun i => tot It i k) k It (ver + k) (num + 1) e0 (It k) (ver + k + 1) wx)
        case first =>
          by_cases h0 : cg (It k) = 0
          · obtain ⟨hKX, ck, Bk, ok, cp, hbK, hitm, hd⟩ := ly2.st.kept
            obtain ⟨hv, q2, q3, q4, sz, cb, q5, q6, va, vb, e1, e2, e3⟩ := hitm (It k) hik
            have hle := tot_le It (It k) k
            have hq6 : (tot It (It k) k + 1) * 3 ≤ cp (It k) * 3 := Nat.mul_le_mul_right _ q2
            have l3 : wz.cell? ⟨L, 3, none⟩ = some (.slice (some ⟨K, 0, none⟩) (n + 1) (n + 1)) := (ly2.st.blk.cell (i := 3) (by omega)).trans (by rw [ly2.st.c3])
            have lk : wz.cell? ⟨K, ((It k : Nat) : Int).toNat, none⟩ = some (.slice (some ⟨Bk (It k), ok (It k), none⟩) (tot It (It k) k + 1) (cp (It k))) := by
              rw [Int.toNat_natCast]
              exact (hbK.cell (i := It k) (by omega)).trans (by rw [hv])
            have x0 : wz.cell? ⟨Bk (It k), ok (It k) + tot It (It k) k * 3, none⟩ = some (.int .i64 va) := (q5.cell (by omega)).trans (by rw [e1])
            have x1 : wz.cell? ⟨Bk (It k), ok (It k) + tot It (It k) k * 3 + 1, none⟩ = some (.int .i64 (latK It ver lat k (It k))) := (q5.cell (by omega)).trans (by rw [e2])
            have x2 : wz.cell? ⟨Bk (It k), ok (It k) + tot It (It k) k * 3 + 2, none⟩ = some (.int .i64 vb) := (q5.cell (by omega)).trans (by rw [e3])
            have b1 : wz.cell? ⟨e0, 1, none⟩ = some (.int .i64 (It k : Int)) := be2.cell (i := 1) (by omega)
            have f13 : wz.cell? ⟨L, 13, none⟩ = some (.slice (some ⟨G, 0, none⟩) (n + 1) (n + 1)) := (ly2.st.blk.cell (i := 13) (by omega)).trans (by rw [ly2.c13])
            have fB : ∀ w6, Below wz.drew.heap.size wz.drew w6 → w6.cell? ⟨L, 13, none⟩ = some (.slice (some ⟨G, 0, none⟩) (n + 1) (n + 1)) ∧ w6.cell? ⟨e0, 1, none⟩ = some (.int .i64 (It k : Int)) ∧ w6.cell? ⟨G, It k, none⟩ = some (.int .i64 (cg (It k))) ∧ (∀ j, w6.frozen? ⟨G, j, none⟩ = false) ∧
                ∀ u, EvS w X L K O G n (T + 1 + 2 * k + 1) (latK It ver lat k) (fun i => tot It i k) k It (ver + k) (num + 1) e0 (It k) (ver + k + 1) (w6.setCell ⟨G, It k, none⟩ (.int .i64 u)) := by
              intro w6 hb6
              have q : Chg X (fun _ => False) wz w6 := (Chg.refl X (fun _ => False) wz).drew.below (fun g hg => hXz g hg) hb6
              have l6 := ly2.chg0 q
              have b6 := q.blk bg2 id
              have e6 := q.blk be2 id
              refine ⟨(l6.st.blk.cell (i := 13) (by omega)).trans (by rw [l6.c13]), e6.cell (i := 1) (by omega), b6.cell (by omega), b6.frozen, fun u => ?_⟩
              obtain ⟨l7, q7⟩ := l6.beg (i := It k) (u := u)
              exact ⟨cy, l7, a1, a2, a8, a11, q7.blk e6 (by unfold Er; decide), ce2.trans ((q.mono fun _ hf => hf.elim).trans q7)⟩
            have hIt0 : (0 : Int) ≤ ((It k : Nat) : Int) := by omega
            have hm0 : tot It (It k) k < 4611686018427387904 := by omega
            have cl := latest_any L K (Bk (It k)) (ok (It k)) (tot It (It k) k) (cp (It k)) (n + 1) (n + 1) (It k : Int) va (latK It ver lat k (It k)) vb wz.drew l3 hIt0 (by omega) hm0 lk x0 x1 x2
            go_wp2_with fail
            go_region_with (go_at_call 17; refine cl.mono ?_; rintro e w6 ⟨rfl, hb6⟩; obtain ⟨z1, z2, z3, z4, z5⟩ := fB w6 hb6)
            all_goals
              go_wp2_with fail
              go_meet
              exact z5 _
          · have h0' : (cg (It k) == 0) = false := by simpa using h0
            go_wp2_with fail
            go_meet
            exact ⟨cy, ly2, a1, a2, a8, a11, be2, ce2⟩
        case rest =>
          clear ly2 be2 ce2 bg2 hXz
          obtain ⟨cy, ly, a1, a2, a8, a11, be, ce⟩ := hcut
          have hXy : ∀ g, X g → g < wc.heap.size := fun g hg => Nat.lt_of_lt_of_le (hX g hg) ce.size
          have b1 : wc.cell? ⟨e0, 1, none⟩ = some (.int .i64 (It k : Int)) := be.cell (i := 1) (by omega)
          have b2 : wc.cell? ⟨e0, 2, none⟩ = some (.int .i64 (ver + k + 1)) := be.cell (i := 2) (by omega)
          have f2 : wc.cell? ⟨L, 2, none⟩ = some (.int .i64 (num + 1)) := (ly.st.blk.cell (i := 2) (by omega)).trans (by rw [a2])
          have hneq := neq28
          go_upto_region 17 with fail
          clear hneq
          go_cut [] (fun wx => EvS w X L K O G n (T + 1 + 2 * k + 1) (latK It ver lat (k + 1)) (fun i => tot It i (k + 1)) (k + 1) It (ver + k) (num + 1) e0 (It k) (ver + k + 1) wx)
          case first =>
            have cz0 : Chg X (fun _ => False) wc wc.drew := (Chg.refl X (fun _ => False) wc).drew
            have lyd := ly.chg0 cz0
            have hle := tot_le It (It k) k
            have cl := swrite_any X L K n cy (latK It ver lat k) (fun i => tot It i k) k It (It k) (num + 1) (ver + k + 1) 0 wc.drew lyd.st hXy hik (by show tot It (It k) k ≤ 100000; omega) (by omega) (by omega)
            have fin : ∀ w7, (∃ c', StoreC w7 X L K n c' (fun j => if j = It k then ver + k + 1 else latK It ver lat k j) (fun j => if j = It k then (fun i => tot It i k) (It k) + 1 else (fun i => tot It i k) j) (k + 1) (fun j => if j = k then It k else It j) ∧ (∀ j, j ≠ 4 → c' j = cy j) ∧ Chg X Es wc.drew w7) →
                EvS w X L K O G n (T + 1 + 2 * k + 1) (latK It ver lat (k + 1)) (fun i => tot It i (k + 1)) (k + 1) It (ver + k) (num + 1) e0 (It k) (ver + k + 1) w7 := by
              rintro w7 ⟨c7, s7, k7, q7⟩
              have s8 : StoreC w7 X L K n c7 (latK It ver lat (k + 1)) (fun i => tot It i (k + 1)) (k + 1) It := s7.congr (fun i _ => rfl) (fun i _ => by
                simp only [tot]
                by_cases e : i = It k
                · subst e; simp
                · have e' : ¬ It k = i := fun h => e h.symm
                  simp [e, e']) (fun j _ => by by_cases e : j = k <;> simp [e])
              exact ⟨c7, lyd.store s8 (fun j j4 _ _ => k7 j j4) q7, (k7 1 (by decide)).trans a1, (k7 2 (by decide)).trans a2, (k7 8 (by decide)).trans a8, (k7 11 (by decide)).trans a11, q7.blk be.drew (by unfold Es; decide), (ce.drew).trans (q7.mono fun e he => by rcases he with rfl | rfl | rfl | rfl <;> simp [Er])⟩
            go_region_with (go_at_call 27; refine cl.mono ?_; rintro e w7 ⟨rfl, hp7⟩; have z7 := fin w7 hp7)
            all_goals
              go_wp2_with fail
              go_meet
              exact z7
          case rest =>
            clear ly be ce hXy b1 b2 f2 a1 a2 a8 a11
            obtain ⟨cy, ly, a1, a2, a8, a11, be, ce⟩ := hcut
            have hXy : ∀ g, X g → g < wc.heap.size := fun g hg => Nat.lt_of_lt_of_le (hX g hg) ce.size
            have b2 : wc.cell? ⟨e0, 2, none⟩ = some (.int .i64 (ver + k + 1)) := be.cell (i := 2) (by omega)
            have f1 : wc.cell? ⟨L, 1, none⟩ = some (.int .i64 (ver + k)) := (ly.st.blk.cell (i := 1) (by omega)).trans (by rw [a1])
            have zL : ∀ j, wc.frozen? ⟨L, j, none⟩ = false := ly.st.blk.frozen
            go_upto_region 19 with fail
            have bL := ly.st.blk.set 1 (.int .i64 (ver + k + 1))
            have qL := (Chg.refl X (fun e => e = 75) wc).setCell ly.st.blk ly.st.nX rfl 1 (.int .i64 (ver + k + 1))
            have ly2 := ly.cell bL (fun j j1 _ _ => by simp [j1]) qL
            have be2 := qL.blk be (by decide)
            have ce2 := ce.trans (Er75 qL)
            clear ly be ce hXy b2 f1 zL bL qL
            generalize wc.setCell ⟨L, 1, none⟩ (.int .i64 (ver + k + 1)) = wq at ly2 be2 ce2 ⊢
            have hXq : ∀ g, X g → g < wq.heap.size := fun g hg => Nat.lt_of_lt_of_le (hX g hg) ce2.size
            obtain ⟨co, bo, ho⟩ := ly2.on
            obtain ⟨rm2, hrm, hrw⟩ := ho (It k) hik
            obtain ⟨ra2, rc2, erow⟩ := hrw.val
            rw [erow] at hrw
            obtain ⟨xr, hxr⟩ := hrw.1
            have f12 : wq.cell? ⟨L, 12, none⟩ = some (.slice (some ⟨O, 0, none⟩) (n + 1) (n + 1)) := (ly2.st.blk.cell (i := 12) (by omega)).trans (by rw [ly2.c12])
            have fo : wq.cell? ⟨O, It k, none⟩ = some (.slice ra2 rm2 rc2) := (bo.cell (i := It k) (by omega)).trans (by rw [erow])
            have b0 : wq.cell? ⟨e0, 0, none⟩ = some (.bool true) := be2.cell (i := 0) (by omega)
            have b1 : wq.cell? ⟨e0, 1, none⟩ = some (.int .i64 (It k : Int)) := be2.cell (i := 1) (by omega)
            have b2 : wq.cell? ⟨e0, 2, none⟩ = some (.int .i64 (ver + k + 1)) := be2.cell (i := 2) (by omega)
            have cz : Chg X (fun _ => False) wq (wq.alloc (.cells #[.int .i64 (mt : Int), .bool true, .int .i64 (It k : Int), .int .i64 (ver + k + 1)] 100)).drew := ((Chg.refl X (fun _ => False) wq).alloc hXq _).drew
            have lL := ly2.st.blk.lt
            have lO := bo.lt
            have lE := be2.lt
            obtain ⟨v9, w9, hr9, hap⟩ := run_append1 (P := Yba.prog) (wq.alloc (.cells #[.int .i64 (mt : Int), .bool true, .int .i64 (It k : Int), .int .i64 (ver + k + 1)] 100)).drew 97 97 100 Yba.underlying97 info100 rfl (.slice ra2 rm2 rc2) rm2 xr (hxr.alloc _).drew ⟨wq.heap.size, 0, none⟩ 1 (four (.int .i64 (mt : Int)) (.bool true) (.int .i64 (It k : Int)) (.int .i64 (ver + k + 1))) (four_new wq _ _ _ _ 100) (four_cell rfl rfl rfl rfl) (by omega) (by unfold maxLen; omega)
            have qa := (Chg.refl X (fun t => t = 100) (wq.alloc (.cells #[.int .i64 (mt : Int), .bool true, .int .i64 (It k : Int), .int .i64 (ver + k + 1)] 100)).drew).app (fun g hg => by have := hXq g hg; simp; omega) (hxr.alloc _).drew hrw.2 rfl hap
            have x1 := qa.blk (cz.blk ly2.st.blk id) (by decide)
            have x2 := qa.blk (cz.blk be2 id) (by decide)
            have x3 := qa.blk (cz.blk bo id) (by decide)
            have z5 : RdS w X L K O G n (T + 1 + 2 * k + 1 + 1) (latK It ver lat (k + 1)) (fun i => tot It i (k + 1)) (k + 1) It (ver + k + 1) (num + 1) (w9.setCell ⟨O, It k, none⟩ v9) := by
              obtain ⟨l1, l2⟩ := LogC.row (i := It k) ly2 hXq cz bo (by rw [erow]; exact hrw) hrm (by rw [erow]; exact hap)
              exact ⟨_, l1, by simp, by simpa using a2, by simpa using a8, by simpa using a11, ce2.trans l2⟩
            obtain ⟨g9, o9, cp9, rfl⟩ := hap.val
            have z1 : w9.cell? ⟨L, 12, none⟩ = some (.slice (some ⟨O, 0, none⟩) (n + 1) (n + 1)) := (x1.cell (i := 12) (by omega)).trans (by rw [ly2.c12])
            have z2 : w9.cell? ⟨e0, 1, none⟩ = some (.int .i64 (It k : Int)) := x2.cell (i := 1) (by omega)
            have z3 : w9.cell? ⟨O, It k, none⟩ = some (.slice ra2 rm2 rc2) := (x3.cell (i := It k) (by omega)).trans (by rw [erow])
            have z4 := x3.frozen
            clear qa x1 x2 x3
            go_wp2_with fail
            go_region
            all_goals
              go_wp2_with fail
              go_roundg (m - (k + 1))
              case measure => omega
              case rel =>
                refine ⟨k + 1, by omega, rfl, by go_num, by go_num, ?_⟩
                have e1 : ver + ((k + 1 : Nat) : Int) = ver + k + 1 := by omega
                have e2 : T + 1 + 2 * (k + 1) = T + 1 + 2 * k + 1 + 1 := by omega
                rw [e1, e2]
                exact z5
    · have hkm : k = m := by omega
      subst hkm
      go_wp2_with fail
      refine (collect_any X L K n cr _ k It wr hL.st (by omega) (by omega)).mono ?_
      rintro e w9 ⟨rfl, c9, s9, k9, q9⟩
      go_wp2
      go_end0
      exact ⟨rfl, c9, hL.store s9 k9 q9, (k9 1 (by decide) (by decide) (by decide)).trans d1, (k9 2 (by decide) (by decide) (by decide)).trans d2, (k9 8 (by decide) (by decide) (by decide)).trans d8, (k9 11 (by decide) (by decide) (by decide)).trans d11, hcg.trans (q9.mono fun e he => by rcases he with rfl | rfl | rfl | rfl <;> simp [Er])⟩

#print axioms record_any
end Go.Proofs.Ybulkbzcc
