/-
  compacted.
-/
import Derived.Test.YbulkbzhmCompA
namespace Go.Proofs.Ybulkbzhm
set_option linter.unusedSectionVars false
variable [Base]
open Go.RowKit
open Go.WideShapes (add_plain)

theorem info21 : (Yba.prog.info? 21).map (fun i => (i.zero, i.size, i.bytes)) = some (some (.int .i32 0), 1, 4) := by kernel_rfl

theorem make21 (n : Nat) (hn : n ≤ 10000) : ∃ cur : Array Value, cur.size = n ∧ (∀ i, i < n → cur[i]? = some (.int .i32 0)) ∧ ∀ wx, (Instr.makeSlice 64 (.int .i64 (n : Int)) (.int .i64 (n : Int))).run Yba.prog wx = .ok (.slice (some ⟨wx.heap.size, 0, none⟩) n n) (wx.alloc (.cells cur 21)) := by
  obtain ⟨i0, hi0, hz0, hz1, hz2⟩ := info_parts info21
  refine ⟨madeCells #[.int .i32 0] n, (madeCells_one _ _).1, (madeCells_one _ _).2, fun wx => ?_⟩
  have hr := run_make (P := Yba.prog) wx 64 21 i0 _ Yba.underlying64 hi0 hz0 .i64 .i64 n n (by omega) (by omega) (by rw [hz2]; omega) (by omega)
  rw [hr, hz1]
  simp [Value.cells]

theorem Ch.setNew {E : TypeId → Prop} {w w1 : World} (h : Ch E w w1) {g : Nat} (hg : w.heap.size ≤ g) (i : Nat) (v : Value) : Ch E w (w1.setCell ⟨g, i, none⟩ v) :=
  ⟨h.os, h.tape, h.output, by simpa using h.size, fun k o ho hn => by
    have : k < w.heap.size := (Array.getElem?_eq_some_iff.1 ho).1
    rw [heap_setCell_other _ _ _ _ (by simp; omega)]
    exact h.keep k o ho hn, fun k o hk ho => by
    have : k < w.heap.size := (Array.getElem?_eq_some_iff.1 ho).1
    rw [heap_setCell_other _ _ _ _ (by simp; omega)]
    exact h.low k o hk ho⟩

/-- Where a section goes. -/
def movedTo (K : List Nat) (j : Nat) : Nat := (liveK (K.take j)).length

theorem take_set_succ (L : List Nat) (n u : Nat) (h : n < L.length) : (L.set n u).take (n + 1) = L.take n ++ [u] := by
  rw [List.take_add_one, List.take_set]
  have : (L.take n).set n u = L.take n := List.set_eq_of_length_le (by simp; omega)
  rw [this]
  simp [h]

/-- What is moved so far. -/
def Part (K Kc : List Nat) (i : Nat) : Prop := Kc.length = K.length ∧ Kc.take (movedTo K i) = liveK (K.take i) ∧ Kc.drop i = K.drop i

theorem ThrQ.elem {w : World} {T : Nat} {tc xv qv : Nat → Value} {xk : Nat → List Nat} {lv : Nat → Nat} {t g n cap : Nat} (h : ThrQ w T tc xv xk qv lv) (hv : xv t = .slice (some ⟨g, 0, none⟩) n cap) (i kd : Nat) (s : Int) :
    ThrQ ((((((w.setCell ⟨g, i * 6, none⟩ (.int .u64 s)).setCell ⟨g, i * 6 + 1, none⟩ (.int .u64 0)).setCell ⟨g, i * 6 + 2, none⟩ (.int .u64 0)).setCell ⟨g, i * 6 + 3, none⟩ (.pointer none)).setCell ⟨g, i * 6 + 4, none⟩ (.int .u32 0)).setCell ⟨g, i * 6 + 5, none⟩ (.int .u8 (kd : Int))) T tc xv (upd xk t ((xk t).set i kd)) qv lv ∧
      One g w ((((((w.setCell ⟨g, i * 6, none⟩ (.int .u64 s)).setCell ⟨g, i * 6 + 1, none⟩ (.int .u64 0)).setCell ⟨g, i * 6 + 2, none⟩ (.int .u64 0)).setCell ⟨g, i * 6 + 3, none⟩ (.pointer none)).setCell ⟨g, i * 6 + 4, none⟩ (.int .u32 0)).setCell ⟨g, i * 6 + 5, none⟩ (.int .u8 (kd : Int))) := by
  obtain ⟨sz, c, _, _, _, hb, _⟩ := h.arr hv
  have hr := h.rows.row t
  rw [hv] at hr
  have h1 : One g w ((((((w.setCell ⟨g, i * 6, none⟩ (.int .u64 s)).setCell ⟨g, i * 6 + 1, none⟩ (.int .u64 0)).setCell ⟨g, i * 6 + 2, none⟩ (.int .u64 0)).setCell ⟨g, i * 6 + 3, none⟩ (.pointer none)).setCell ⟨g, i * 6 + 4, none⟩ (.int .u32 0)).setCell ⟨g, i * 6 + 5, none⟩ (.int .u8 (kd : Int))) := ((((((One.refl g w).setCell _ _).setCell _ _).setCell _ _).setCell _ _).setCell _ _).setCell _ _
  have he := hr.elem i kd s
  generalize ((((((w.setCell ⟨g, i * 6, none⟩ (.int .u64 s)).setCell ⟨g, i * 6 + 1, none⟩ (.int .u64 0)).setCell ⟨g, i * 6 + 2, none⟩ (.int .u64 0)).setCell ⟨g, i * 6 + 3, none⟩ (.pointer none)).setCell ⟨g, i * 6 + 4, none⟩ (.int .u32 0)).setCell ⟨g, i * 6 + 5, none⟩ (.int .u8 (kd : Int))) = w' at h1 he ⊢
  have r1 := h.rows.turn (w' := w') KRow.loc t he (fun g' _ hn => h1.block g' fun hc => hn (by rw [hv, hc]; rfl)) (fun g' hg' => .inl (by rw [hv]; exact hg'))
  rw [← hv, upd_self] at r1
  exact ⟨⟨h1.blk h.blk (h.blk.ne hb (by decide)), fun u hu => (h.one u hu).turn (Nums.other h1 hb (by decide)) fun _ _ _ => rfl, r1⟩, h1⟩

set_option maxRecDepth 100000 in
set_option maxHeartbeats 2000000 in
theorem compacted_any {w : World} {T : Nat} {xv qv : Nat → Value} {xk : Nat → List Nat} (h : ThrP w T xv xk qv) (t : Nat) (ht : t ≤ 2) (hK : (xk t).length ≤ 10000) :
    Calls Yba.prog 36 #[.pointer (some ⟨T, t * 8, none⟩)] w fun e w' => Ch Et w w' ∧
      ((e = .returned (.slice none 0 0) ∧ ThrP w' T xv xk qv) ∨
        ∃ v' M c, e = .returned (.slice (some ⟨M, 0, none⟩) (xk t).length (xk t).length) ∧ w.heap.size ≤ M ∧ Blk w' M 21 (xk t).length c ∧ (∀ j, j < (xk t).length → (xk t).getD j 0 ≠ 2 → c j = .int .i32 (movedTo (xk t) j : Int)) ∧ ThrP w' T (upd xv t v') (upd xk t (liveK (xk t))) qv) := by
  obtain ⟨tc, lv, hq, hbig, hhigh⟩ := h
  have h1 := hq.one t ht
  have hb := hq.blk
  have lT := hb.lt
  obtain ⟨a, cap, hv⟩ := (hq.rows.row t).val
  obtain ⟨d, c1, hd⟩ := h1.c1
  have q0 : w.cell? ⟨T, t * 8, none⟩ = some (.slice a (xk t).length cap) := (hb.cell (by omega)).trans (by rw [h1.c0, hv])
  have q1 : w.cell? ⟨T, t * 8 + 1, none⟩ = some (.int .i64 d) := (hb.cell (by omega)).trans (by rw [c1])
  obtain ⟨cur, hcs, hcc, hmk⟩ := make21 (xk t).length hK
  have keep : ∀ m, ThrP (w.drewN m) T xv xk qv := fun m => ⟨tc, lv, ⟨hb.drewN m, fun u hu => (hq.one u hu).turn ((Nums.refl w).drewN m) fun _ _ _ => rfl, hq.rows.of_blocks KRow.loc fun _ _ _ _ => rfl⟩, hbig, hhigh⟩
  by_cases hd0 : d = 0
  · subst hd0
    go_enter Yba.func36, Yba.ntmps36
    go_wp2_with fail
    go_quiet (fail)
    go_wp2
    go_ret
    exact ⟨(Ch.refl _ w).drewN _, .inl ⟨rfl, keep _⟩⟩
  · have hdb : (d == 0) = false := by simpa using hd0
    rcases hq.rows.row t with ⟨h0, _⟩ | ⟨g, cap', sz, c, hv', k1, k2, k3, k4, k5⟩
    · exact absurd (hd h0) hd0
    rw [hv] at hv'
    simp at hv'
    obtain ⟨rfl, rfl⟩ := hv'
    go_enter Yba.func36, Yba.ntmps36
    go_wp2_with fail
    go_quiet (fail)
    by_cases hlt : wrap64 (2 * d) < ((xk t).length : Int)
    · go_wp2
      go_ret
      exact ⟨(Ch.refl _ w).drewN _, .inl ⟨rfl, keep _⟩⟩
    · have hltd : decide (wrap64 (2 * d) < ((xk t).length : Int)) = false := by simpa using hlt
      have qA : ((w.drewN nq).alloc (.cells cur 21)).cell? ⟨T, t * 8, none⟩ = some (.slice (some ⟨g, 0, none⟩) (xk t).length cap) := (((hb.drewN nq).alloc _).cell (by omega)).trans (by rw [h1.c0, hv])
      go_wp2_with fail
      have sA : ThrQ ((w.drewN nq).alloc (.cells cur 21)) T tc xv xk qv lv := by
        have hbl : Below w.heap.size w ((w.drewN nq).alloc (.cells cur 21)) := ⟨rfl, rfl, rfl, by simp, fun k hk => Below.heap_alloc (w.drewN nq) _ k hk⟩
        exact ⟨hb.of_block (hbl.block T hb.lt), fun u hu => (hq.one u hu).turn (Nums.below hbl) fun _ _ _ => rfl, hq.rows.below KRow.loc hbl⟩
      have bA : Blk ((w.drewN nq).alloc (.cells cur 21)) w.heap.size 21 (xk t).length (fun _ => .int .i32 0) := Blk.new (w.drewN nq) cur 21 hb.room hcs hcc
      have eA : Ch Et w ((w.drewN nq).alloc (.cells cur 21)) := ((Ch.refl _ w).drewN nq).alloc _
      obtain ⟨M, hM⟩ : ∃ M, M = w.heap.size := ⟨_, rfl⟩
      have HM : Hid (w.heap.size ≤ M) := by rw [hM]; exact Nat.le_refl _
      rw [← hM] at bA ⊢
      clear qA q0 q1 hmk hcc hcs k3 k4 k5 hM
      generalize (w.drewN nq).alloc (.cells cur 21) = wA at sA bA eA ⊢
      go_loopg [3, 35] (xk t).length (fun k nv iv wr => ∃ (i : Nat) (Kc : List Nat) (c : Nat → Value), k + i = (xk t).length ∧ iv = .int .i64 (i : Int) ∧ nv = .int .i64 (movedTo (xk t) i : Int) ∧ Part (xk t) Kc i ∧ ThrQ wr T tc xv (upd xk t Kc) qv lv ∧ Blk wr M 21 (xk t).length c ∧ (∀ j, j < (xk t).length → ∃ b : Int, c j = .int .i32 b) ∧ (∀ j, j < i → (xk t).getD j 0 ≠ 2 → c j = .int .i32 (movedTo (xk t) j : Int)) ∧ Ch Et w wr)
      case atStart => exact ⟨0, xk t, _, by omega, rfl, rfl, ⟨rfl, rfl, rfl⟩, by rw [upd_self]; exact sA, bA, fun j _ => ⟨0, rfl⟩, fun j hj => by omega, eA⟩
      case round =>
        clear sA bA eA
        obtain ⟨i, Kc, cm, hk, rfl, rfl, ⟨p1, p2, p3⟩, sQ, bM, hcm, hmv, eW⟩ := hrel
        have HMV : Hid (∀ j, j < i → (xk t).getD j 0 ≠ 2 → cm j = .int .i32 (movedTo (xk t) j : Int)) := hmv
        have HCM : Hid (∀ j, j < (xk t).length → ∃ b : Int, cm j = .int .i32 b) := hcm
        clear hmv hcm
        by_cases hi : i < (xk t).length
        · have hu : Kc.getD i 0 = (xk t).getD i 0 := by
            have e1 : Kc[i]? = (xk t)[i]? := by
              have := congrArg (fun L => L[0]?) p3
              simpa using this
            simp [List.getD, e1]
          obtain ⟨sz', c', _, _, _, b3, b4, b5⟩ := sQ.arr hv
          obtain ⟨⟨s, a0⟩, a1, a2, a3, a4, a5⟩ := b5 i (by rw [upd_same]; omega)
          rw [upd_same, hu] at a5
          have g0 : wr.cell? ⟨g, i * 6, none⟩ = some (.int .u64 s) := (b3.cell (by omega)).trans (by rw [a0])
          have g1 : wr.cell? ⟨g, i * 6 + 1, none⟩ = some (.int .u64 0) := (b3.cell (by omega)).trans (by rw [a1])
          have g2 : wr.cell? ⟨g, i * 6 + 2, none⟩ = some (.int .u64 0) := (b3.cell (by omega)).trans (by rw [a2])
          have g3 : wr.cell? ⟨g, i * 6 + 3, none⟩ = some (.pointer none) := (b3.cell (by omega)).trans (by rw [a3])
          have g4 : wr.cell? ⟨g, i * 6 + 4, none⟩ = some (.int .u32 0) := (b3.cell (by omega)).trans (by rw [a4])
          have g5 : wr.cell? ⟨g, i * 6 + 5, none⟩ = some (.int .u8 (((xk t).getD i 0 : Nat) : Int)) := (b3.cell (by omega)).trans (by rw [a5])
          have hiI : (i : Int) < ((xk t).length : Int) := by omega
          have lg := b3.lt
          have lT := sQ.blk.lt
          have lM := bM.lt
          generalize hu' : (xk t).getD i 0 = u at g5
          have hstep := liveK_succ (xk t) i hi
          rw [hu'] at hstep
          have hn : movedTo (xk t) i ≤ i := Nat.le_trans (List.length_filter_le _ _) (by simp; omega)
          have hbl : ∀ o : Obj, Below wr.heap.size wr (wr.alloc o) := fun o => (Below.refl _ _).alloc (Nat.le_refl _) o
          have sB : ∀ o : Obj, ThrQ (wr.alloc o) T tc xv (upd xk t Kc) qv lv := fun o => ⟨sQ.blk.alloc _, fun u hu => (sQ.one u hu).turn (Nums.below (hbl o)) fun _ _ _ => rfl, sQ.rows.below KRow.loc (hbl o)⟩
          by_cases h2 : u = 2
          · subst h2
            rw [if_pos rfl, List.append_nil] at hstep
            go_wp2_with fail
            go_roundg (gk - 1)
            case measure => omega
            case rel =>
              have em : movedTo (xk t) (i + 1) = movedTo (xk t) i := by unfold movedTo; rw [hstep]
              refine ⟨i + 1, Kc, cm, by omega, by go_num, by rw [em], ⟨p1, by rw [em, hstep]; exact p2, ?_⟩, sB _, bM.alloc _, HCM.out, fun j hj hj2 => ?_, eW.alloc _⟩
              · rw [← List.drop_drop, ← List.drop_drop, p3]
              · by_cases e : j = i
                · subst e
                  exact absurd hu' hj2
                · exact HMV.out j (by omega) hj2
          · have h2I : ((u : Int) == 2) = false := by
              simp only [beq_eq_false_iff_ne]
              omega
            rw [if_neg h2] at hstep
            have bx : Blk (wr.alloc (.cells (secC s u) 87)) wr.heap.size 87 6 (secN s u) := Blk.new wr _ 87 bM.room rfl fun j hj => by
              have : j = 0 ∨ j = 1 ∨ j = 2 ∨ j = 3 ∨ j = 4 ∨ j = 5 := by omega
              rcases this with rfl | rfl | rfl | rfl | rfl | rfl <;> rfl
            have sB1 := sB (.cells (secC s u) 87)
            have bM1 := bM.alloc (.cells (secC s u) 87)
            have eB := eW.alloc (.cells (secC s u) 87)
            go_wp2_with fail
            unfold secC at bx sB1 bM1 eB
            have hBg : wr.heap.size ≠ g := by omega
            have hBM : wr.heap.size ≠ M := by omega
            clear g0 g1 g2 g3 g4 g5 b3 b4 b5 sQ bM eW sB hbl lg lT lM
            generalize wr.heap.size = B at bx hBg hBM ⊢
            generalize wr.alloc (.cells #[.int .u64 s, .int .u64 0, .int .u64 0, .pointer none, .int .u32 0, .int .u8 (u : Int)] 87) = wB at bx sB1 bM1 eB ⊢
            obtain ⟨sz2, c2, _, _, _, b3, b4, b5⟩ := sB1.arr hv
            obtain ⟨⟨s2, z0⟩, z1, z2, z3, z4, z5⟩ := b5 (movedTo (xk t) i) (by rw [upd_same]; omega)
            have hnI : (movedTo (xk t) i : Int) < ((xk t).length : Int) := by omega
            have hn10 : (movedTo (xk t) i : Int) ≤ 10000 := by omega
            have g0 := b3.cell (i := movedTo (xk t) i * 6) (by omega)
            have g1 := b3.cell (i := movedTo (xk t) i * 6 + 1) (by omega)
            have g2 := b3.cell (i := movedTo (xk t) i * 6 + 2) (by omega)
            have g3 := b3.cell (i := movedTo (xk t) i * 6 + 3) (by omega)
            have g4 := b3.cell (i := movedTo (xk t) i * 6 + 4) (by omega)
            have g5 := b3.cell (i := movedTo (xk t) i * 6 + 5) (by omega)
            have zg := b3.frozen
            have zM := bM1.frozen
            have m0 := bM1.cell (i := i) hi
            have x0 := bx.cell (i := 0) (by omega)
            have x1 := bx.cell (i := 1) (by omega)
            have x2 := bx.cell (i := 2) (by omega)
            have x3 := bx.cell (i := 3) (by omega)
            have x4 := bx.cell (i := 4) (by omega)
            have x5 := bx.cell (i := 5) (by omega)
            simp only [secN] at x0 x1 x2 x3 x4 x5
            have hgM : g ≠ M := b3.ne bM1 (by decide)
            have hTg : T ≠ g := sB1.blk.ne b3 (by decide)
            have hTM : T ≠ M := sB1.blk.ne bM1 (by decide)
            have qT : wB.cell? ⟨T, t * 8, none⟩ = some (.slice (some ⟨g, 0, none⟩) (xk t).length cap) := (sB1.blk.cell (by omega)).trans (by rw [(sB1.one t ht).c0, hv])
            obtain ⟨sE, oE⟩ := sB1.elem hv (movedTo (xk t) i) u s
            have eE : Ch Et w _ := eB.trans (Ch.one oE b3 (.inr (.inr rfl)))
            have bE : Blk _ M 21 (xk t).length cm := oE.blk bM1 (fun h => hgM h.symm)
            have hT' := sE.blk
            go_region
            generalize ((((((wB.setCell ⟨g, movedTo (xk t) i * 6, none⟩ (.int .u64 s)).setCell ⟨g, movedTo (xk t) i * 6 + 1, none⟩ (.int .u64 0)).setCell ⟨g, movedTo (xk t) i * 6 + 2, none⟩ (.int .u64 0)).setCell ⟨g, movedTo (xk t) i * 6 + 3, none⟩ (.pointer none)).setCell ⟨g, movedTo (xk t) i * 6 + 4, none⟩ (.int .u32 0)).setCell ⟨g, movedTo (xk t) i * 6 + 5, none⟩ (.int .u8 (u : Int))) = wE at sE oE eE bE hT' ⊢
            go_wp2_with fail
            go_roundg (gk - 1)
            case measure => omega
            case rel =>
              have em : movedTo (xk t) (i + 1) = movedTo (xk t) i + 1 := by unfold movedTo; rw [hstep]; simp
              have e2 : ((movedTo (xk t) (i + 1) : Nat) : Int) = (movedTo (xk t) i : Int) + 1 := by rw [em]; rfl
              have sF : ThrQ (wE.setCell ⟨M, i, none⟩ (.int .i32 (movedTo (xk t) i : Int))).drew T tc xv (upd xk t (Kc.set (movedTo (xk t) i) u)) qv lv := by
                rw [upd_same, upd_upd] at sE
                exact ⟨(hT'.set_other (a := ⟨M, i, none⟩) (hT'.ne bE (by decide)) _).drew, fun v hv => (sE.one v hv).turn (((Nums.other ((One.refl M wE).setCell _ _) bE (by decide)).drewN 1)) fun _ _ _ => rfl, sE.rows.of_blocks KRow.loc fun k _ _ hk => heap_setCell_other _ _ _ _ (hk.ne bE (by decide))⟩
              refine ⟨i + 1, Kc.set (movedTo (xk t) i) u, _, by omega, by go_num, by rw [e2], ⟨by simpa using p1, ?_, ?_⟩, sF, (bE.set i (.int .i32 (movedTo (xk t) i : Int))).drew, fun j hj => ?_, fun j hj hj2 => ?_, (eE.setNew HM.out i _).drew⟩
              · rw [em, hstep, take_set_succ _ _ _ (by omega), p2]
              · rw [List.drop_set, if_pos (by omega), ← List.drop_drop, ← List.drop_drop, p3]
              · by_cases e : j = i
                · exact ⟨(movedTo (xk t) i : Int), by simp [e]⟩
                · obtain ⟨b, hb⟩ := HCM.out j hj
                  exact ⟨b, by simp [e, hb]⟩
              · by_cases e : j = i
                · simp [e]
                · simp only [e, if_false]
                  exact HMV.out j (by omega) hj2
        · have hie : i = (xk t).length := by omega
          have em : movedTo (xk t) i = (liveK (xk t)).length := by unfold movedTo; rw [hie]; simp
          have hn : (liveK (xk t)).length ≤ (xk t).length := List.length_filter_le _ _
          have hp2 : Kc.take (liveK (xk t)).length = liveK (xk t) := by
            rw [em] at p2
            rw [p2, hie]
            simp
          obtain ⟨sz', c', -, -, -, b3, b4, b5⟩ := sQ.arr hv
          rw [upd_same] at b5
          have hrest : (liveK (xk t)).length + ((xk t).length - (liveK (xk t)).length) = (xk t).length := by omega
          obtain ⟨w2, c2, hr, o2, b2, hkeep⟩ := run_clear87 wr g (liveK (xk t)).length ((xk t).length - (liveK (xk t)).length) (cap - (liveK (xk t)).length) sz' c' b3 (by rw [hrest]; omega)
          have hr0 : ∀ ty a cc, (Builtin.clear_ #[96] ty #[.slice a 0 cc]).run Yba.prog wr = .ok (.tuple #[]) wr := fun ty a cc => by
            cases a <;> simp [Builtin.clear_, run_underlying Yba.underlying96, Result.andThen]
          have hsec : ∀ c2 : Nat → Value, (∀ j, j < (liveK (xk t)).length * 6 → c2 j = c' j) → SecV c2 (liveK (xk t)) := fun c2 hk j hj => by
            obtain ⟨⟨s, a0⟩, a1, a2, a3, a4, a5⟩ := b5 j (by omega)
            refine ⟨⟨s, (hk _ (by omega)).trans a0⟩, (hk _ (by omega)).trans a1, (hk _ (by omega)).trans a2, (hk _ (by omega)).trans a3, (hk _ (by omega)).trans a4, (hk _ (by omega)).trans (a5.trans ?_)⟩
            rw [← hp2]
            simp [List.getD, hj]
          have q0 : wr.cell? ⟨T, t * 8, none⟩ = some (.slice (some ⟨g, 0, none⟩) (xk t).length cap) := (sQ.blk.cell (by omega)).trans (by rw [(sQ.one t ht).c0, hv])
          have hiI : decide ((i : Int) < ((xk t).length : Int)) = false := by simp; omega
          have HSE : Hid (∀ c2 : Nat → Value, (∀ j, j < (liveK (xk t)).length * 6 → c2 j = c' j) → SecV c2 (liveK (xk t))) := hsec
          have HK2 : Hid (∀ j, j < (liveK (xk t)).length * 6 → c2 j = c' j) := hkeep
          clear hkeep hsec
          have hcmv : Hid (∀ j, j < (xk t).length → (xk t).getD j 0 ≠ 2 → cm j = .int .i32 (movedTo (xk t) j : Int)) := fun j hj h2 => HMV.out j (by omega) h2
          clear HMV
          rw [em]
          clear em p2 p3 hp2 b5 hi
          subst hie
          generalize hnn : (liveK (xk t)).length = n at *
          have hnI : (n : Int) ≤ ((xk t).length : Int) := by omega
          have hnc : ((xk t).length : Int) ≤ (cap : Int) := by omega
          go_upto_region 12 with fail
          go_cut [] (fun wx => One g wr wx ∧ ∃ c3, Blk wx g 87 sz' c3 ∧ SecV c3 (liveK (xk t)))
          case first =>
            by_cases hz : n = (xk t).length
            · subst hz
              by_cases hcl : cap = (xk t).length
              · subst hcl
                go_wp2_with fail
                go_meet
                exact ⟨One.refl _ _, c', b3, HSE.out _ fun _ _ => rfl⟩
              · go_wp2_with fail
                go_meet
                exact ⟨One.refl _ _, c', b3, HSE.out _ fun _ _ => rfl⟩
            · have hcn : ¬ cap = n := by omega
              go_wp2_with fail
              all_goals
                go_meet
                exact ⟨o2, c2, b2, HSE.out _ HK2.out⟩
          case rest =>
            obtain ⟨oC, c3, bC, sC⟩ := hcut
            have hK' : (liveK (xk t)).length = n := hnn
            have tC : Blk wc T 104 512 tc := oC.blk sQ.blk (sQ.blk.ne b3 (by decide))
            have mC : Blk wc M 21 (xk t).length cm := oC.blk bM (bM.ne b3 (by decide))
            have nC : Nums wr wc := Nums.other oC b3 (by decide)
            have eC : Ch Et w wc := eW.trans (Ch.one oC b3 (.inr (.inr rfl)))
            have rC : Fam KRow wc (upd xv t (.slice (some ⟨g, 0, none⟩) n cap)) (upd xk t (liveK (xk t))) := by
              have := sQ.rows.turn (w' := wc) KRow.loc t (v' := .slice (some ⟨g, 0, none⟩) n cap) (L' := liveK (xk t)) (.inr ⟨g, cap, sz', c3, by rw [hK'], by omega, k2, bC, b4, sC⟩) (fun k _ hk => oC.block k fun hc => hk (by rw [hv, hc]; rfl)) (fun k hk => .inl (by rw [hv]; exact hk))
              rw [upd_upd] at this
              exact this
            have zT := tC.frozen
            have p0 : wc.cell? ⟨T, t * 8, none⟩ = some (.slice (some ⟨g, 0, none⟩) (xk t).length cap) := (tC.cell (by omega)).trans (by rw [(sQ.one t ht).c0, hv])
            have p1' := tC.cell (i := t * 8 + 1) (by omega)
            have p2' := tC.cell (i := t * 8 + 2) (by omega)
            have tG := ((tC.set (t * 8) (.slice (some ⟨g, 0, none⟩) n cap)).set (t * 8 + 1) (.int .i64 0)).set (t * 8 + 2) (.int .i64 0)
            have oG : One T wc (((wc.setCell ⟨T, t * 8, none⟩ (.slice (some ⟨g, 0, none⟩) n cap)).setCell ⟨T, t * 8 + 1, none⟩ (.int .i64 0)).setCell ⟨T, t * 8 + 2, none⟩ (.int .i64 0)) := (((One.refl T wc).setCell _ _).setCell _ _).setCell _ _
            have bG := oG.blk bC (bC.ne tC (by decide))
            have nG := Nums.other oG tC (by decide)
            have eG := eC.trans (Ch.one oG tC (E := Et) (.inl rfl))
            have mG := oG.blk mC (mC.ne tC (by decide))
            have rG : Fam KRow (((wc.setCell ⟨T, t * 8, none⟩ (.slice (some ⟨g, 0, none⟩) n cap)).setCell ⟨T, t * 8 + 1, none⟩ (.int .i64 0)).setCell ⟨T, t * 8 + 2, none⟩ (.int .i64 0)) (upd xv t (.slice (some ⟨g, 0, none⟩) n cap)) (upd xk t (liveK (xk t))) := rC.of_blocks KRow.loc fun k _ _ hk => oG.block k (hk.ne tC (by decide))
            have hone := sQ.one t ht
            obtain ⟨d1, cc1, -⟩ := hone.c1
            rw [cc1] at p1'
            rw [hone.c2] at p2'
            go_wp2_with fail
            clear zT p0 p1' p2' oG rC eC mC
            generalize (((wc.setCell ⟨T, t * 8, none⟩ (.slice (some ⟨g, 0, none⟩) n cap)).setCell ⟨T, t * 8 + 1, none⟩ (.int .i64 0)).setCell ⟨T, t * 8 + 2, none⟩ (.int .i64 0)) = wG at *
            obtain ⟨pg, hpg⟩ : ∃ pg : Nat → Value, pg = fun j => if j = t * 8 + 2 then .int .i64 0 else if j = t * 8 + 1 then .int .i64 0 else if j = t * 8 then .slice (some ⟨g, 0, none⟩) n cap else tc j := ⟨_, rfl⟩
            rw [← hpg] at tG
            have far : ∀ j, j ≠ t * 8 → j ≠ t * 8 + 1 → j ≠ t * 8 + 2 → pg j = tc j := fun j j0 j1 j2 => by rw [hpg]; simp [j0, j1, j2]
            have f0 : pg (t * 8) = .slice (some ⟨g, 0, none⟩) n cap := by rw [hpg]; simp
            have f1 : pg (t * 8 + 1) = .int .i64 0 := by rw [hpg]; simp
            have f2 : pg (t * 8 + 2) = .int .i64 0 := by rw [hpg]; simp
            have nW : Nums wr wG := nC.trans nG
            refine (grow_any T (t * 8) g n cap sz' (lv t) (lv t) pg c3 wG tG (by omega) f0 (by rw [far _ (by omega) (by omega) (by omega)]; exact hone.c3.nums nW) (by rw [far _ (by omega) (by omega) (by omega)]; exact hone.c4.nums nW) bG (by omega) (by omega) k2 b4 (fun j hj => by
              obtain ⟨a0, _, _, _, _, a5⟩ := sC j (by omega)
              exact ⟨⟨_, a5⟩, a0⟩) ⟨0, f2⟩).mono ?_
            rintro e w' ⟨rfl, l', pc', b1, b2', b3', b4', b5', b6', b7', b8', b9', b10'⟩
            go_wp2
            go_ret
            refine ⟨eG.trans (b9'.mono fun e he => Eg.et he), .inr ⟨.slice (some ⟨g, 0, none⟩) n cap, M, cm, rfl, HM.out, b9'.blk mG (by unfold Eg; decide), hcmv.out, pc', upd lv t l', ?_, fun u hu => ?_, fun u hu => ?_⟩⟩
            · have := sQ.turn t b4' (fun j hj => by rw [b8' j (by omega) (by omega) (by omega), far j (by omega) (by omega) (by omega)]) (nW.trans b10') (v' := .slice (some ⟨g, 0, none⟩) n cap) (q' := qv t) (K' := liveK (xk t)) (lv' := l') (by
                rw [upd_upd]
                exact rG.ch KRow.loc b9' (by unfold Eg; decide)) ⟨(b8' _ (by omega) (by omega) (by omega)).trans f0, ⟨0, (b8' _ (by omega) (by omega) (by omega)).trans f1, fun h => by simp at h⟩, b5', b6', b7', by rw [b8' _ (by omega) (by omega) (by omega), far _ (by omega) (by omega) (by omega)]; exact hone.c5, by rw [b8' _ (by omega) (by omega) (by omega), far _ (by omega) (by omega) (by omega)]; exact hone.c6, by rw [b8' _ (by omega) (by omega) (by omega), far _ (by omega) (by omega) (by omega)]; exact hone.c7, b3'⟩
              rw [upd_upd, upd_self] at this
              exact this
            · by_cases e : u = t
              · subst e
                rw [upd_same, upd_same, hK']
                exact b2'
              · rw [upd_other _ _ e, upd_other _ _ e]
                exact hbig u hu
            · rw [upd_other _ _ (by omega), upd_other _ _ (by omega)]
              exact hhigh u hu

#print axioms compacted_any
end Go.Proofs.Ybulkbzhm
