/-
  build.
-/
import Derived.Test.YbulkbzhmDropN
import Derived.Test.YbulkbzhmClone
namespace Go.Proofs.Ybulkbzhm
set_option linter.unusedSectionVars false
variable [Base]
open Go.RowKit Go.Maps
open Go.WideShapes (add_plain)

/-- The steps, as they lie in a block that is not ours. -/
def StepsIs (w : World) (a : Option Addr) (n : Nat) (f : Nat → Nat → Nat) : Prop :=
  0 < n → ∃ b o, a = some ⟨b, o, none⟩ ∧ b < Base.n ∧ b < w.heap.size ∧ ∀ i, i < n →
    w.cell? ⟨b, o + i * 5, none⟩ = some (.int .u8 (f i 0 : Int)) ∧ w.cell? ⟨b, o + i * 5 + 1, none⟩ = some (.int .u8 (f i 1 : Int)) ∧ w.cell? ⟨b, o + i * 5 + 2, none⟩ = some (.int .u8 (f i 2 : Int)) ∧
    w.cell? ⟨b, o + i * 5 + 3, none⟩ = some (.int .u8 (f i 3 : Int)) ∧ w.cell? ⟨b, o + i * 5 + 4, none⟩ = some (.int .u16 (f i 4 : Int))

theorem StepsIs.ch {E : TypeId → Prop} {w w' : World} {a : Option Addr} {n : Nat} {f : Nat → Nat → Nat} (h : StepsIs w a n f) (hc : Ch E w w') : StepsIs w' a n f := fun hn => by
  obtain ⟨b, o, rfl, hb, hw, hcell⟩ := h hn
  have hblk : w'.heap[b]? = w.heap[b]? := by
    have h1 : w.heap[b]? = some w.heap[b] := Array.getElem?_eq_getElem hw
    rw [hc.low b _ hb h1, h1]
  have e : ∀ i, w'.cell? ⟨b, i, none⟩ = w.cell? ⟨b, i, none⟩ := fun i => World.cell?_of_block (a := ⟨b, i, none⟩) hblk
  refine ⟨b, o, rfl, hb, Nat.lt_of_lt_of_le hw hc.size, fun i hi => ?_⟩
  rw [e, e, e, e, e]
  exact hcell i hi

/-- The state at the start. -/
def St0 (D cb : Nat) : St := { D := D, L := none, T := none, hv := fun _ => nilS, hn := fun _ => 0, hc := fun _ => 0, th := fun _ => 0, pl := fun _ => 0, sv := fun _ => nilS, sl := fun _ => [], pv := fun _ => nilS, pd := fun _ => [], ct := fun _ => 0, xv := fun _ => nilS, xk := fun _ => [], qv := fun _ => nilS, ql := fun _ => [], cb := cb, pm := none, pz := 0, ph := fun _ => false }

theorem nil_rows {ι : Type} (w : World) (e : TypeId) (q : IntKind) : LRows (ι := ι) w e q (fun _ => nilS) (fun _ => []) := ⟨fun _ => .inl ⟨rfl, rfl⟩, fun _ _ _ h => by simp [Value.ownBlock] at h⟩

theorem rep0 {w : World} {D cb : Nat} {dv : Nat → Value} {a : Int} (hD : Blk w D 56 9 dv) (h0 : dv 0 = nilS) (h1 : dv 1 = nilS) (h7 : dv 7 = nilS) (h8 : dv 8 = .map none) (hcb : Blk w cb 3 1 (fun _ => .int .i64 a)) : Rep w (St0 D cb) :=
  ⟨⟨dv, hD, .inl ⟨rfl, h0⟩, .inl ⟨rfl, h1⟩, h7, h8⟩, .inl ⟨rfl, fun _ _ => ⟨rfl, rfl⟩⟩, .inl ⟨rfl, fun _ => ⟨rfl, rfl⟩, fun _ _ => rfl⟩, ⟨fun _ _ => undef, ⟨fun _ => .inl ⟨rfl, rfl, rfl⟩, fun _ _ _ h => by simp [St0, Value.ownBlock] at h⟩, fun _ _ h => by simp [St0] at h⟩, fun _ _ _ => ⟨rfl, rfl⟩, nil_rows w 21 .i32, nil_rows w 63 .u32, nil_rows w 3 .i64, ⟨⟨a, hcb⟩, fun _ h => by simp [St0, Value.ownBlock] at h⟩, .inl ⟨rfl, rfl, fun _ => rfl⟩⟩

theorem inv0 (D cb : Nat) : Inv 0 (St0 D cb) := by
  refine ⟨?_, ?_, ?_, ?_, ?_, ?_, ?_, ?_, ?_, ?_, ?_, ?_, ?_, ?_, ⟨rfl, rfl⟩, ⟨rfl, rfl⟩, ?_, ?_, ?_, ?_, ?_, Nat.le_refl _⟩ <;> simp [St0]

attribute [local go_sem] Oper.semAt_some

set_option maxRecDepth 100000 in
set_option maxHeartbeats 4000000 in
theorem build_rep {w : World} {a : Option Addr} {n cap cb : Nat} {f : Nat → Nat → Nat} {c0 : Int} (hs : StepsIs w a n f) (hf : ∀ i j, j < 4 → f i j ≤ 255) (hn : n ≤ 512) (hcb : Blk w cb 3 1 (fun _ => .int .i64 c0)) :
    Calls Yba.prog 4 #[.slice a n cap, .pointer (some ⟨cb, 0, none⟩)] w fun e w' => ∃ s, e = .returned (.pointer (some ⟨s.D, 0, none⟩)) ∧ Rep w' s ∧ Inv 1024 s ∧ Ch Ea w w' := by
  have hnI : (n : Int) ≤ 512 := by omega
  have hB := hcb.room
  obtain ⟨W, hW⟩ : ∃ W, W = (w.alloc (.cells #[.pointer (some ⟨cb, 0, none⟩)] 25)).alloc (.cells #[.slice none 0 0, .slice none 0 0, .slice none 0 0, .slice none 0 0, .slice none 0 0, .slice none 0 0, .int .i32 0, .slice none 0 0, .map none] 56) := ⟨_, rfl⟩
  have hG0 : Blk W w.heap.size 25 1 (fun _ => .pointer (some ⟨cb, 0, none⟩)) := by
    rw [hW]
    exact (Blk.new w _ 25 hB (sz := 1) rfl (fun j hj => by
      have : j = 0 := by omega
      subst this
      rfl)).alloc _
  have hD0 : Blk W (w.heap.size + 1) 56 9 (fun j => if j = 6 then .int .i32 0 else if j = 8 then .map none else nilS) := by
    rw [hW]
    refine Blk.new_at (w.alloc (.cells #[.pointer (some ⟨cb, 0, none⟩)] 25)) _ 56 (by simp; omega) (by simp) rfl (fun j hj => ?_)
    rcases (by omega : j = 0 ∨ j = 1 ∨ j = 2 ∨ j = 3 ∨ j = 4 ∨ j = 5 ∨ j = 6 ∨ j = 7 ∨ j = 8) with rfl | rfl | rfl | rfl | rfl | rfl | rfl | rfl | rfl <;> rfl
  have cW : Ch Ea w W := by
    rw [hW]
    exact ((Ch.refl _ w).alloc _).alloc _
  have hR0 : Rep W (St0 (w.heap.size + 1) cb) := rep0 hD0 rfl rfl rfl rfl (by rw [hW]; exact (hcb.alloc _).alloc _)
  go_enter Yba.func4, Yba.ntmps4
  go_wp2_with fail
  rw [← hW]
  clear hW hD0 hcb
  generalize w.heap.size + 1 = D at hR0 ⊢
  generalize w.heap.size = G at hG0 hB ⊢
  go_loopg [16] n (fun gk v wr => ∃ (i : Nat) (s : St), gk + i = n ∧ v = .int .i64 (i : Int) ∧ Rep wr s ∧ Inv (2 * i) s ∧ s.D = D ∧ s.cb = cb ∧ Ch Ea w wr ∧ Blk wr G 25 1 (fun _ => .pointer (some ⟨cb, 0, none⟩)))
  case atStart => exact ⟨0, _, by omega, rfl, hR0, inv0 D cb, rfl, rfl, cW, hG0⟩
  case round =>
    clear hR0 cW hG0
    obtain ⟨i, s, hgi, rfl, hR, hI, rfl, hcb, hC, hG⟩ := hrel
    have HCB : Hid (s.cb = cb) := hcb
    clear hcb
    by_cases hi : i < n
    · have hiI : (i : Int) < (n : Int) := by omega
      obtain ⟨b, o, rfl, -, -, hcell⟩ := (hs.ch hC) (by omega)
      obtain ⟨x0, x1, x2, x3, x4⟩ := hcell i hi
      have f0 := hf i 0 (by omega)
      have f1 := hf i 1 (by omega)
      have f2 := hf i 2 (by omega)
      have f3 := hf i 3 (by omega)
      generalize f i 0 = p0 at x0 f0
      generalize f i 1 = p1 at x1 f1
      generalize f i 2 = p2 at x2 f2
      generalize f i 3 = p3 at x3 f3
      generalize f i 4 = p4 at x4
      clear hcell
      go_upto_region 6 with fail
      have hRa := hR.alloc (.cells #[.int .u8 (p0 : Int), .int .u8 (p1 : Int), .int .u8 (p2 : Int), .int .u8 (p3 : Int), .int .u16 (p4 : Int)] 83)
      have hGa := hG.alloc (.cells #[.int .u8 (p0 : Int), .int .u8 (p1 : Int), .int .u8 (p2 : Int), .int .u8 (p3 : Int), .int .u16 (p4 : Int)] 83)
      have hCa := hC.alloc (.cells #[.int .u8 (p0 : Int), .int .u8 (p1 : Int), .int .u8 (p2 : Int), .int .u8 (p3 : Int), .int .u16 (p4 : Int)] 83)
      have bM : Blk (wr.alloc (.cells #[.int .u8 (p0 : Int), .int .u8 (p1 : Int), .int .u8 (p2 : Int), .int .u8 (p3 : Int), .int .u16 (p4 : Int)] 83)) wr.heap.size 83 5 (fun j => if j = 0 then .int .u8 (p0 : Int) else if j = 1 then .int .u8 (p1 : Int) else if j = 2 then .int .u8 (p2 : Int) else if j = 3 then .int .u8 (p3 : Int) else .int .u16 (p4 : Int)) := Blk.new wr _ 83 hR.base rfl (fun j hj => by
        rcases (by omega : j = 0 ∨ j = 1 ∨ j = 2 ∨ j = 3 ∨ j = 4) with rfl | rfl | rfl | rfl | rfl <;> rfl)
      generalize wr.alloc (.cells #[.int .u8 (p0 : Int), .int .u8 (p1 : Int), .int .u8 (p2 : Int), .int .u8 (p3 : Int), .int .u16 (p4 : Int)] 83) = w0 at hRa hGa hCa bM ⊢
      generalize wr.heap.size = M at bM ⊢
      clear hR hG hC x0 x1 x2 x3 x4
      have y0 : w0.cell? ⟨M, 0, none⟩ = some (.int .u8 (p0 : Int)) := bM.cell (by omega)
      have y1 : w0.cell? ⟨M, 1, none⟩ = some (.int .u8 (p1 : Int)) := bM.cell (by omega)
      have y2 : w0.cell? ⟨M, 2, none⟩ = some (.int .u8 (p2 : Int)) := bM.cell (by omega)
      have y3 : w0.cell? ⟨M, 3, none⟩ = some (.int .u8 (p3 : Int)) := bM.cell (by omega)
      have y4 : w0.cell? ⟨M, 4, none⟩ = some (.int .u16 (p4 : Int)) := bM.cell (by omega)
      go_quiet (fail)
      go_upto_block 2 with fail
      have e0 : (p0 : Int) % 4 = ((p0 % 4 : Nat) : Int) := by omega
      have e1 : (p1 : Int) % 3 = ((p1 % 3 : Nat) : Int) := by omega
      have e2 : (p2 : Int) % 3 = ((p2 % 3 : Nat) : Int) := by omega
      rw [e0, e1, e2]
      have hq : p0 % 4 < 4 := Nat.mod_lt _ (by omega)
      have ht : p1 % 3 ≤ 2 := by omega
      have hl : p2 % 3 ≤ 2 := by omega
      have ha : p3 % 4 ≤ 3 := by omega
      have e3 : (p3 : Int) % 4 = ((p3 % 4 : Nat) : Int) := by omega
      clear e0 e1 e2
      generalize p0 % 4 = q at hq ⊢
      generalize p1 % 3 = t at ht ⊢
      generalize p2 % 3 = l at hl ⊢
      generalize p3 % 4 = ac at ha e3
      have hNN : 2 * i ≤ 5000 := by omega
      have HG : Hid (∀ w', Ch Ea (w0.drewN nq) w' → Ch Ea w w' ∧ Blk w' G 25 1 (fun _ => .pointer (some ⟨cb, 0, none⟩))) := fun w' hc => ⟨(hCa.drewN nq).trans hc, hc.blk (hGa.drewN nq) (by unfold Ea; decide)⟩
      rcases (by omega : q = 0 ∨ q = 1 ∨ q = 2 ∨ q = 3) with rfl | rfl | rfl | rfl
      · have cl := addNested_rep (hRa.drewN nq) hI hNN t l ht hl (IntKind.u64.wrap (p4 : Int))
        go_wp2_with fail
        refine cl.mono ?_
        rintro e w1 ⟨rfl, s', hR', hI', hD', hcb', hC'⟩
        have HH : Hid (s'.D = s.D ∧ s'.cb = s.cb) := ⟨hD', hcb'⟩
        clear hD' hcb'
        go_wp2_with fail
        go_roundg (gk - 1)
        case measure => omega
        case rel =>
          obtain ⟨g1, g2⟩ := HG.out _ hC'
          exact ⟨i + 1, s', by omega, by go_num, hR', hI'.mono (by omega), HH.out.1, HH.out.2.trans HCB.out, g1, g2⟩
      · have cl := hold_rep (hRa.drewN nq) t l hl
        go_wp2_with fail
        refine cl.mono ?_
        rintro e w1 ⟨LS, -, hR', hC', hway⟩
        obtain ⟨g1, g2⟩ := HG.out _ (hC'.mono fun e he => Ea.of_El he)
        rcases hway with ⟨rfl, hno⟩ | ⟨k, g, hk, hth, hhv, rfl⟩
        · go_wp2_with fail
          go_roundg (gk - 1)
          case measure => omega
          case rel => exact ⟨i + 1, _, by omega, by go_num, hR', (hI.setL _).mono (by omega), rfl, HCB.out, g1, g2⟩
        · have cp := pend_rep hR' (hI.setL _) hNN rfl t l ac hl ha ⟨k, hk, hth⟩
          have y3' := (hC'.blk (bM.drewN nq) (by unfold El; decide)).cell (i := 3) (by omega)
          simp only [Nat.reduceEqDiff, if_false, if_true] at y3'
          clear hhv hth
          go_wp2_with fail
          refine cp.mono ?_
          rintro e w2 ⟨rfl, s', hR2, hI2, hD2, hcb2, hC2⟩
          have HH : Hid (s'.D = s.D ∧ s'.cb = s.cb) := ⟨hD2, hcb2⟩
          clear hD2 hcb2
          go_wp2_with fail
          go_roundg (gk - 1)
          case measure => omega
          case rel => exact ⟨i + 1, s', by omega, by go_num, hR2, hI2.mono (by omega), HH.out.1, HH.out.2.trans HCB.out, g1.trans hC2, hC2.blk g2 (by unfold Ea; decide)⟩
      · have cl := contest_rep (hRa.drewN nq) hI hNN l G hl (by rw [HCB.out]; exact hGa.drewN nq)
        go_wp2_with fail
        refine cl.mono ?_
        rintro e w1 ⟨rfl, s', hR', hI', hD', hcb', hC'⟩
        have HH : Hid (s'.D = s.D ∧ s'.cb = s.cb) := ⟨hD', hcb'⟩
        clear hD' hcb'
        go_wp2_with fail
        go_roundg (gk - 1)
        case measure => omega
        case rel =>
          obtain ⟨g1, g2⟩ := HG.out _ hC'
          exact ⟨i + 1, s', by omega, by go_num, hR', hI'.mono (by omega), HH.out.1, HH.out.2.trans HCB.out, g1, g2⟩
      · have cl := dropNested_rep (hRa.drewN nq) hI hNN t l ht hl
        go_wp2_with fail
        refine cl.mono ?_
        rintro e w1 ⟨rfl, s', LS', hR', hI', hD', hcb', -, -, hC', -⟩
        have HH : Hid (s'.D = s.D ∧ s'.cb = s.cb) := ⟨hD', hcb'⟩
        clear hD' hcb'
        go_wp2_with fail
        go_roundg (gk - 1)
        case measure => omega
        case rel =>
          obtain ⟨g1, g2⟩ := HG.out _ (hC'.mono fun e he => he.1)
          exact ⟨i + 1, s', by omega, by go_num, hR', hI'.mono (by omega), HH.out.1, HH.out.2.trans HCB.out, g1, g2⟩
    · have : i = n := by omega
      subst this
      go_wp2
      go_ret
      exact ⟨s, rfl, hR, hI.mono (by omega), hC⟩

end Go.Proofs.Ybulkbzhm
