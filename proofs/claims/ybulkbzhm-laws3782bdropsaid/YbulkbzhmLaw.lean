/-
  The law.
-/
import Derived.Test.YbulkbzhmBuild
import Derived.Deep.RegionHeld3
namespace Go.Proofs.Ybulkbzhm
set_option linter.unusedSectionVars false
variable [Base]
open Go.RowKit Go.Maps
open Go.WideShapes (add_plain)

/-- live, where the array of threads is made. -/
theorem live_made {w : World} {s : St} {N : Nat} (h : Rep w s) (hI : Inv N s) (hN : N ≤ 5000) {TS : Nat} (hT : s.T = some TS) (t : Nat) (ht : t ≤ 2) :
    Calls Yba.prog 8 #[.pointer (some ⟨TS, t * 8, none⟩)] w fun e w' => e = .returned (.int .i64 ((liveK (s.xk t)).length : Int)) ∧ w' = w := by
  obtain ⟨tc, lv, hq, -, -⟩ := h.thrP hT
  exact live_any hq t ht (by have := hI.zx t ht; omega)

/-- The masks behind a drop. -/
theorem DropRel.has {s s' : St} {t l k : Nat} (hD : DropRel s s' t l k) (l' : Nat) (hl' : l' ≤ 2) : ∀ u, hasB s' l' (s'.hn l') u = (hasB s l' (s.hn l') u && !(decide (l' = l) && u == t)) := fun u => by
  have h := hD.thIn l' u hl'
  rw [Bool.eq_iff_iff, hasB_iff, h]
  by_cases e : l' = l
  · simp [e, hasB_iff]
  · simp [e, hasB_iff]

theorem msk_same {s s' : St} {l : Nat} (h : ∀ u, hasB s' l (s'.hn l) u = hasB s l (s.hn l) u) : msk s' l (s'.hn l) = msk s l (s.hn l) := by
  unfold msk
  rw [h, h, h]

theorem DropRel.other {s s' : St} {t l k : Nat} (hD : DropRel s s' t l k) (l' : Nat) (hl' : l' ≤ 2) (hne : l' ≠ l) : msk s' l' (s'.hn l') = msk s l' (s.hn l') :=
  msk_same fun u => by
    rw [hD.has l' hl' u]
    simp [hne]

theorem DropRel.own {s s' : St} {t l k : Nat} (hD : DropRel s s' t l k) (hl : l ≤ 2) (ht : t ≤ 2) : bits .andNot .u8 ((msk s l (s.hn l) : Nat) : Int) ((bitOf t : Nat) : Int) = ((msk s' l (s'.hn l) : Nat) : Int) := by
  unfold msk
  rw [mskB_andNot _ _ _ t ht, hD.has l hl, hD.has l hl, hD.has l hl]
  simp

theorem msk_zero {N : Nat} {s : St} (hI : Inv N s) {l : Nat} (hl : l ≤ 2) : msk s l (s.hn l) = 0 ↔ s.hn l = 0 := by
  constructor
  · intro h
    by_cases h0 : s.hn l = 0
    · exact h0
    · have hth := hI.thr l 0 hl (by omega)
      have hb : hasB s l (s.hn l) (s.th (l, 0)) = true := (hasB_iff _ _ _ _).2 ⟨0, by omega, rfl⟩
      generalize s.th (l, 0) = u at hth hb
      unfold msk mskB at h
      rcases (by omega : u = 0 ∨ u = 1 ∨ u = 2) with rfl | rfl | rfl <;> simp [hb] at h
  · intro h
    rw [h]
    rfl

/-- A look at the pending gifts, the map made or not. -/
theorem MapK.lookO {w : World} {pm : Option Nat} {z : Nat} {f : Int → Bool} (h : MapK w pm z f) {x : Int} (hw : (Lit.int .u64 x).wf = true) : (Instr.lookup 54 (.map pm) (.int .u64 x) true).run Yba.prog w = .ok (.tuple #[cm0, .bool (f x)]) w := by
  cases pm with
  | none =>
    rcases h with ⟨_, _, h2⟩ | ⟨b, _, h0, _⟩
    · rw [Maps.look_nil true (int_keyed Yba.underlying70) Yba.underlying54 (zero75 w) (keyOf_int_mk Yba.underlying70 hw), h2]
      rfl
    · simp at h0
  | some b => exact h.look hw

theorem eq26 (a b c : Int) (w : World) : (Op.equalIn 10000 26 (.agg #[.int .u8 a, .int .u8 b, .int .u8 c]) (.agg #[.int .u8 a, .int .u8 b, .int .u8 c])).run Yba.prog w = .ok true w := by
  have u5 := Yba.underlying5
  have a5 := Yba.isAgg5
  have z5 := Yba.sizeOf5
  rw [show (10000 : Nat) = 9999 + 1 from rfl, Op.equalIn]
  simp only [Sem.run_bind, run_underlying Yba.underlying26, Result.andThen_ok]
  simp only [Std.Legacy.Range.forIn_eq_forIn_range', Std.Legacy.Range.size, Nat.sub_zero, Nat.add_sub_cancel, Nat.div_one, List.range'_succ, List.range'_zero, List.forIn_cons, List.forIn_nil]
  go_simp

attribute [local go_sem] Oper.semAt_some

set_option maxRecDepth 100000 in
set_option maxHeartbeats 40000000 in
theorem law_walk {w : World} {a : Option Addr} {n cap : Nat} {f : Nat → Nat → Nat} (t0 l0 : Nat) (ht0 : t0 ≤ 255) (hl0 : l0 ≤ 255) (hs : StepsIs w a n f) (hf : ∀ i j, j < 4 → f i j ≤ 255) (hn : n ≤ 512) (hB : Base.n ≤ w.heap.size) :
    Calls Yba.prog 3 #[.slice a n cap, .int .u8 (t0 : Int), .int .u8 (l0 : Int)] w fun e w' => e = .returned (.bool true) ∧ Ch Ea w w' := by
  have hnI : (n : Int) ≤ 512 := by omega
  have bC : Blk (w.alloc (.cells #[.int .i64 0] 3)) w.heap.size 3 1 (fun _ => .int .i64 0) := Blk.new w _ 3 hB rfl (fun j hj => by
    have : j = 0 := by omega
    subst this
    rfl)
  have cA : Ch Ea w (w.alloc (.cells #[.int .i64 0] 3)) := (Ch.refl _ w).alloc _
  have cb := build_rep (cap := cap) (hs.ch cA) hf hn bC
  go_enter Yba.func3, Yba.ntmps3
  go_wp2_with fail
  refine cb.mono ?_
  rintro e w1 ⟨s, rfl, hR1, hI1, hC1⟩
  have c1 : Ch Ea w w1 := cA.trans hC1
  have e1 : (t0 : Int) % 3 = ((t0 % 3 : Nat) : Int) := by omega
  have e2 : (l0 : Int) % 3 = ((l0 % 3 : Nat) : Int) := by omega
  have ht : t0 % 3 ≤ 2 := by omega
  have hl : l0 % 3 ≤ 2 := by omega
  generalize t0 % 3 = t at e1 ht
  generalize l0 % 3 = l at e2 hl
  have cm := masks_rep hR1 hI1
  unfold masksV at cm
  clear cb bC cA hC1 hs
  go_wp2_with fail
  refine cm.mono ?_
  rintro e w2 ⟨LS, rfl, hR2, -, hC2⟩
  have c2 : Ch Ea w w2 := c1.trans (hC2.mono fun e he => Ea.of_El he)
  have hI2 := hI1.setL (some LS)
  go_wp2_with fail
  have bE : Blk (w2.alloc (.cells #[.int .u8 (msk s 0 (s.hn 0) : Int), .int .u8 (msk s 1 (s.hn 1) : Int), .int .u8 (msk s 2 (s.hn 2) : Int)] 26)) w2.heap.size 26 3 (maskAt s) := Blk.new w2 _ 26 hR2.base rfl (fun j hj => by
    rcases (by omega : j = 0 ∨ j = 1 ∨ j = 2) with rfl | rfl | rfl <;> rfl)
  have hR3 := hR2.alloc (.cells #[.int .u8 (msk s 0 (s.hn 0) : Int), .int .u8 (msk s 1 (s.hn 1) : Int), .int .u8 (msk s 2 (s.hn 2) : Int)] 26)
  have c3 := c2.alloc (.cells #[.int .u8 (msk s 0 (s.hn 0) : Int), .int .u8 (msk s 1 (s.hn 1) : Int), .int .u8 (msk s 2 (s.hn 2) : Int)] 26)
  generalize w2.alloc (.cells #[.int .u8 (msk s 0 (s.hn 0) : Int), .int .u8 (msk s 1 (s.hn 1) : Int), .int .u8 (msk s 2 (s.hn 2) : Int)] 26) = w3 at bE hR3 c3 ⊢
  generalize w2.heap.size = E1 at bE ⊢
  clear hR2 hC2 c2 cm hR1 hI1 c1
  have bE' : Blk w3 E1 26 3 (maskAt { s with L := some LS }) := bE
  clear bE
  have hD2 : ({ s with L := some LS } : St).D = s.D := rfl
  have hL2 : ({ s with L := some LS } : St).L = some LS := rfl
  have hms : ∀ j, msk s j (s.hn j) = msk ({ s with L := some LS } : St) j (({ s with L := some LS } : St).hn j) := fun j => rfl
  rw [hms 0, hms 1, hms 2]
  generalize ({ s with L := some LS } : St) = s2 at hR3 hI2 bE' hD2 hL2 ⊢
  clear hms
  rw [← hD2]
  clear hD2
  have ch := hold_made hR3 hL2 t l hl
  refine ch.mono ?_
  rintro e w4 ⟨v, rfl, hH, m4, rfl⟩
  have ci := isContested_made (hR3.drewN m4) hL2 l hl
  go_wp2_with fail
  refine ci.mono ?_
  rintro e w5 ⟨rfl, m5, rfl⟩
  rw [World.drewN_drewN]
  have hR5 := hR3.drewN (m4 + m5)
  have b5 := bE'.drewN (m4 + m5)
  have c5 := c3.drewN (m4 + m5)
  generalize w3.drewN (m4 + m5) = w5 at hR5 b5 c5 ⊢
  clear ch ci bE' hR3 c3
  obtain ⟨-, -, d8, -⟩ := hR5.dcell
  have hlen := fun ty => hR5.map.len ty
  have cn := nested_rep hR5 t ht
  go_wp2_with fail
  refine cn.mono ?_
  rintro e w6 ⟨TS, rfl, -, hR6, hC6⟩
  have b6 := hC6.blk b5 (by decide)
  have c6 : Ch Ea w w6 := c5.trans (hC6.mono fun e he => by unfold Ea; rcases he with h | h | h <;> simp [h])
  have hI6 := hI2.setT (some TS)
  clear cn hlen d8 hR5 b5 c5 hC6
  have hD6 : ({ s2 with T := some TS } : St).D = s2.D := rfl
  have hL6 : ({ s2 with T := some TS } : St).L = some LS := hL2
  have hT6 : ({ s2 with T := some TS } : St).T = some TS := rfl
  have hH6 : Held ({ s2 with T := some TS } : St) t l v := hH
  have b6' : Blk w6 E1 26 3 (maskAt { s2 with T := some TS }) := b6
  have hms : ∀ j, msk s2 j (s2.hn j) = msk ({ s2 with T := some TS } : St) j (({ s2 with T := some TS } : St).hn j) := fun j => rfl
  have hct : s2.ct = ({ s2 with T := some TS } : St).ct := rfl
  have hpz : s2.pz = ({ s2 with T := some TS } : St).pz := rfl
  rw [hms 0, hms 1, hms 2, hct, hpz]
  generalize ({ s2 with T := some TS } : St) = s3 at hR6 hI6 b6' hD6 hL6 hT6 hH6 ⊢
  clear hms hct hpz b6 hH hI2 hL2
  rw [← hD6]
  clear hD6
  have cv := live_made hR6 hI6 (by omega) hT6 t ht
  obtain ⟨-, d7, -, -⟩ := hR6.dcell
  obtain ⟨aq, cq, hqv⟩ := (hR6.locks.row 3).val
  rw [hqv] at d7
  have HQV : Hid (s3.qv 3 = .slice aq (s3.ql 3).length cq) := hqv
  clear hqv
  go_wp2_with fail
  refine cv.mono ?_
  rintro e w7 ⟨rfl, rfl⟩
  rcases hH6 with ⟨rfl, hno⟩ | ⟨k, g, hk, hth, hhv, rfl⟩
  · have cd := dropNested_rep hR6 hI6 (by omega) t l ht hl
    go_wp2_with fail
    refine cd.mono ?_
    rintro e w8 ⟨rfl, s', LS', hR8, -, -, -, -, -, hC8, hway⟩
    have b8 := hC8.blk b6' (by unfold Ed Ea; decide)
    have c8 : Ch Ea w w8 := c6.trans (hC8.mono fun e he => he.1)
    have hs' : s' = { s3 with L := some LS' } := by
      rcases hway with ⟨-, h⟩ | ⟨k, hk, hth, -⟩
      · exact h
      · exact absurd hth (hno k hk)
    subst hs'
    clear cd hway hC8 hR6 c6 b6' d7 cv
    have cm := masks_rep hR8 (hI6.setL _)
    have em : masksV { s3 with L := some LS' } = masksV s3 := rfl
    rw [em] at cm
    unfold masksV at cm
    clear em
    go_wp2_with fail
    refine cm.mono ?_
    rintro e w9 ⟨LS9, rfl, hR9, -, hC9⟩
    have b9 := hC9.blk b8 (by unfold El; decide)
    have c9 : Ch Ea w w9 := c8.trans (hC9.mono fun e he => Ea.of_El he)
    clear cm hR8 b8 c8 hC9
    go_upto_region 23 with fail
    have bF : Blk (w9.alloc (.cells #[.int .u8 (msk s3 0 (s3.hn 0) : Int), .int .u8 (msk s3 1 (s3.hn 1) : Int), .int .u8 (msk s3 2 (s3.hn 2) : Int)] 26)) w9.heap.size 26 3 (maskAt s3) := Blk.new w9 _ 26 hR9.base rfl (fun j hj => by
      rcases (by omega : j = 0 ∨ j = 1 ∨ j = 2) with rfl | rfl | rfl <;> rfl)
    have hR10 := hR9.alloc (.cells #[.int .u8 (msk s3 0 (s3.hn 0) : Int), .int .u8 (msk s3 1 (s3.hn 1) : Int), .int .u8 (msk s3 2 (s3.hn 2) : Int)] 26)
    have b10 := b9.alloc (.cells #[.int .u8 (msk s3 0 (s3.hn 0) : Int), .int .u8 (msk s3 1 (s3.hn 1) : Int), .int .u8 (msk s3 2 (s3.hn 2) : Int)] 26)
    have c10 := c9.alloc (.cells #[.int .u8 (msk s3 0 (s3.hn 0) : Int), .int .u8 (msk s3 1 (s3.hn 1) : Int), .int .u8 (msk s3 2 (s3.hn 2) : Int)] 26)
    generalize w9.alloc (.cells #[.int .u8 (msk s3 0 (s3.hn 0) : Int), .int .u8 (msk s3 1 (s3.hn 1) : Int), .int .u8 (msk s3 2 (s3.hn 2) : Int)] 26) = w10 at bF hR10 b10 c10 ⊢
    generalize w9.heap.size = E2 at bF ⊢
    clear hR9 b9 c9
    have x0 : w10.cell? ⟨E1, 0, none⟩ = some (.int .u8 (msk s3 0 (s3.hn 0) : Int)) := b10.cell (by omega)
    have x1 : w10.cell? ⟨E1, 1, none⟩ = some (.int .u8 (msk s3 1 (s3.hn 1) : Int)) := b10.cell (by omega)
    have x2 : w10.cell? ⟨E1, 2, none⟩ = some (.int .u8 (msk s3 2 (s3.hn 2) : Int)) := b10.cell (by omega)
    have y0 : w10.cell? ⟨E2, 0, none⟩ = some (.int .u8 (msk s3 0 (s3.hn 0) : Int)) := bF.cell (by omega)
    have y1 : w10.cell? ⟨E2, 1, none⟩ = some (.int .u8 (msk s3 1 (s3.hn 1) : Int)) := bF.cell (by omega)
    have y2 : w10.cell? ⟨E2, 2, none⟩ = some (.int .u8 (msk s3 2 (s3.hn 2) : Int)) := bF.cell (by omega)
    have hlen : ∀ ty, (Builtin.len_ #[54] ty #[.map s3.pm]).run Yba.prog w10 = .ok (.int .i64 (s3.pz : Int)) w10 := fun ty => hR10.map.len ty
    have d8 : w10.cell? ⟨s3.D, 8, none⟩ = some (.map s3.pm) := hR10.dcell.2.2.1
    have d7 : w10.cell? ⟨s3.D, 7, none⟩ = some (.slice aq (s3.ql 3).length cq) := hR10.dcell.2.1.trans (congrArg some HQV.out)
    have hI10 := hI6.setL (some LS9)
    have heq := eq26 (msk s3 0 (s3.hn 0) : Int) (msk s3 1 (s3.hn 1) : Int) (msk s3 2 (s3.hn 2) : Int) w10
    have cn := nested_made hR10 hT6 t ht
    go_wp2_with fail
    refine cn.mono ?_
    rintro e w11 ⟨rfl, m11, rfl⟩
    have cl := live_made (hR10.drewN m11) hI10 (by omega) hT6 t ht
    go_wp2_with fail
    refine cl.mono ?_
    rintro e w12 ⟨rfl, rfl⟩
    have ci := isContested_made (hR10.drewN m11) (LS := LS9) rfl l hl
    go_wp2_with fail
    refine ci.mono ?_
    rintro e w13 ⟨rfl, m13, rfl⟩
    have cc := contestedok_made ((hR10.drewN m11).drewN m13) hI10 (by omega) (LS := LS9) rfl
    rw [World.drewN_drewN] at cc ⊢
    go_wp2_with fail
    refine cc.mono ?_
    rintro e w14 ⟨rfl, m14, rfl⟩
    go_wp2
    go_ret
    exact ⟨rfl, c10.drewN _⟩
  · have hkc : k < s3.hc l := Nat.lt_of_lt_of_le hk (hR6.holds.val l).2.1
    obtain ⟨-, -, -, -, p3, -⟩ := hR6.hcell hhv hkc
    have hrow := hR6.pends.row (l, k)
    obtain ⟨ap, cp, hpv⟩ := hrow.val
    have cc := clone_row hrow (by have := hI6.zp l k hl; omega)
    rw [hpv] at p3 cc
    have HK : Hid (k < s3.hn l ∧ s3.th (l, k) = t ∧ s3.hv l = .slice (some ⟨g, 0, none⟩) (s3.hn l) (s3.hc l) ∧ k < s3.hc l) := ⟨hk, hth, hhv, hkc⟩
    clear hrow hpv hk hth hhv hkc
    go_wp2_with fail
    refine cc.mono ?_
    rintro e w8 ⟨v8, rfl, a8, cap8, rfl, hC8, hcopy⟩
    have hR8 := hR6.ch (E := fun _ => False) hC8 (fun _ h => h.elim)
    have b8 := hC8.blk b6' id
    have c8 : Ch Ea w w8 := c6.trans (hC8.mono fun e he => he.elim)
    obtain ⟨-, -, -, p2, -, -⟩ := hR8.hcell HK.out.2.2.1 HK.out.2.2.2
    obtain ⟨as1, cs1, hsv⟩ := (hR8.slots.row (l, k)).val
    rw [hsv] at p2
    have cd := dropNested_rep hR8 hI6 (by omega) t l ht hl
    clear cc p3 hR6 c6 b6' d7 cv hC8 hsv
    go_wp2_with fail
    refine cd.mono ?_
    rintro e w9 ⟨rfl, s4, LS9, hR9, hI9, hD9, -, hL9, hT9, hC9, hway⟩
    have b9 := hC9.blk b8 (by unfold Ed Ea; decide)
    have c9 : Ch Ea w w9 := c8.trans (hC9.mono fun e he => he.1)
    have hDR : DropRel s3 s4 t l k := by
      rcases hway with ⟨hno, -⟩ | ⟨k', hk', hth', hDR⟩
      · exact absurd HK.out.2.1 (hno k HK.out.1)
      · have := hI6.thd l k' k hl hk' HK.out.1 (hth'.trans HK.out.2.1.symm)
        subst this
        exact hDR
    have hcopy9 : s3.pd (l, k) = [] ∨ ∃ g sz c, a8 = some ⟨g, 0, none⟩ ∧ Blk w9 g 63 sz c ∧ (s3.pd (l, k)).length ≤ sz ∧ ∀ i, i < (s3.pd (l, k)).length → c i = .int .u32 (((s3.pd (l, k)).getD i 0 : Nat) : Int) := by
      rcases hcopy with h | ⟨g, sz, c, h1, h2, h3, h4⟩
      · exact .inl h
      · exact .inr ⟨g, sz, c, h1, hC9.blk h2 (fun h => h.2 rfl), h3, h4⟩
    rw [hT6] at hT9
    clear cd hway hC9 hR8 c8 b8 p2 hcopy
    have cm := masks_rep hR9 hI9
    rw [hD9] at cm
    unfold masksV at cm
    go_wp2_with fail
    refine cm.mono ?_
    rintro e w10 ⟨LSx, rfl, hR10, hLx, hC10⟩
    have hLe : LS9 = LSx := hLx LS9 hL9
    subst hLe
    have hse : ({ s4 with D := s3.D, L := some LS9 } : St) = s4 := by
      cases s4
      simp at hL9 hD9 ⊢
      exact ⟨hD9.symm, hL9.symm⟩
    rw [hse] at hR10
    have b10 := hC10.blk b9 (by unfold El; decide)
    have c10 : Ch Ea w w10 := c9.trans (hC10.mono fun e he => Ea.of_El he)
    have hcopy10 : s3.pd (l, k) = [] ∨ ∃ g sz c, a8 = some ⟨g, 0, none⟩ ∧ Blk w10 g 63 sz c ∧ (s3.pd (l, k)).length ≤ sz ∧ ∀ i, i < (s3.pd (l, k)).length → c i = .int .u32 (((s3.pd (l, k)).getD i 0 : Nat) : Int) := by
      rcases hcopy9 with h | ⟨g, sz, c, h1, h2, h3, h4⟩
      · exact .inl h
      · exact .inr ⟨g, sz, c, h1, hC10.blk h2 (by unfold El; decide), h3, h4⟩
    clear cm hLx hse hR9 b9 c9 hcopy9 hC10
    go_upto_region 23 with fail
    have bF : Blk (w10.alloc (.cells #[.int .u8 (msk s4 0 (s4.hn 0) : Int), .int .u8 (msk s4 1 (s4.hn 1) : Int), .int .u8 (msk s4 2 (s4.hn 2) : Int)] 26)) w10.heap.size 26 3 (maskAt s4) := Blk.new w10 _ 26 hR10.base rfl (fun j hj => by
      rcases (by omega : j = 0 ∨ j = 1 ∨ j = 2) with rfl | rfl | rfl <;> rfl)
    have hR11 := hR10.alloc (.cells #[.int .u8 (msk s4 0 (s4.hn 0) : Int), .int .u8 (msk s4 1 (s4.hn 1) : Int), .int .u8 (msk s4 2 (s4.hn 2) : Int)] 26)
    have b11 := b10.alloc (.cells #[.int .u8 (msk s4 0 (s4.hn 0) : Int), .int .u8 (msk s4 1 (s4.hn 1) : Int), .int .u8 (msk s4 2 (s4.hn 2) : Int)] 26)
    have c11 := c10.alloc (.cells #[.int .u8 (msk s4 0 (s4.hn 0) : Int), .int .u8 (msk s4 1 (s4.hn 1) : Int), .int .u8 (msk s4 2 (s4.hn 2) : Int)] 26)
    have hcopy11 : s3.pd (l, k) = [] ∨ ∃ g sz c, a8 = some ⟨g, 0, none⟩ ∧ Blk (w10.alloc (.cells #[.int .u8 (msk s4 0 (s4.hn 0) : Int), .int .u8 (msk s4 1 (s4.hn 1) : Int), .int .u8 (msk s4 2 (s4.hn 2) : Int)] 26)) g 63 sz c ∧ (s3.pd (l, k)).length ≤ sz ∧ ∀ i, i < (s3.pd (l, k)).length → c i = .int .u32 (((s3.pd (l, k)).getD i 0 : Nat) : Int) := by
      rcases hcopy10 with h | ⟨g, sz, c, h1, h2, h3, h4⟩
      · exact .inl h
      · exact .inr ⟨g, sz, c, h1, h2.alloc _, h3, h4⟩
    generalize w10.alloc (.cells #[.int .u8 (msk s4 0 (s4.hn 0) : Int), .int .u8 (msk s4 1 (s4.hn 1) : Int), .int .u8 (msk s4 2 (s4.hn 2) : Int)] 26) = w11 at bF hR11 b11 c11 hcopy11 ⊢
    generalize w10.heap.size = E2 at bF ⊢
    clear hR10 b10 c10 hcopy10
    have HCP : Hid _ := hcopy11
    have HDR : Hid (DropRel s3 s4 t l k) := hDR
    have HT : Hid (s4.T = some TS ∧ s4.D = s3.D ∧ s4.L = some LS9) := ⟨hT9, hD9, hL9⟩
    clear hcopy11 hDR hT9 hL9
    have ch := hold_made hR11 HT.out.2.2 t l hl
    rw [hD9] at ch
    clear hD9
    go_wp2_with fail
    refine ch.mono ?_
    rintro e w12 ⟨v12, rfl, hH, m12, rfl⟩
    have hv12 : v12 = .pointer none := by
      rcases hH with ⟨h, -⟩ | ⟨k', g', hk', hth', -, -⟩
      · exact h
      · exact absurd ⟨rfl, rfl⟩ ((HDR.out.thIn l t hl).1 ⟨k', hk', hth'⟩).2
    subst hv12
    clear ch hH
    have hshl := shl_u8 t ht
    go_wp2_with fail
    go_loopg [21] 3 (fun gk v wr => ∃ a : Nat, gk + a = 3 ∧ v = .int .i64 (a : Int) ∧ wr = w11.drewN m12)
    case atStart => exact ⟨0, by omega, rfl, rfl⟩
    case round =>
      obtain ⟨j, hgj, rfl, rfl⟩ := hrel
      by_cases hj : j < 3
      · have hjI : (j : Int) < 3 := by omega
        have x := b11.cell (i := j) (by omega)
        have y := bF.cell (i := j) (by omega)
        unfold maskAt at x y
        by_cases hjl : j = l
        · subst hjl
          have hown := HDR.out.own hl ht
          go_wp2_with fail
          go_roundg (2 - j)
          case measure => omega
          case rel => exact ⟨j + 1, by omega, by go_num, rfl⟩
        · have hjlI : ((j : Int) == (l : Int)) = false := by
            simp only [beq_eq_false_iff_ne]
            omega
          rw [HDR.out.other j (by omega) hjl] at y
          clear hjl
          go_wp2_with fail
          go_roundg (2 - j)
          case measure => omega
          case rel => exact ⟨j + 1, by omega, by go_num, rfl⟩
      · have : j = 3 := by omega
        subst this
        have e3 : ((3 : Nat) : Int) = 3 := rfl
        rw [e3]
        clear e3
        have cn := nested_made (hR11.drewN m12) HT.out.1 t ht
        rw [HT.out.2.1] at cn
        go_wp2_with fail
        refine cn.mono ?_
        rintro e w13 ⟨rfl, m13, rfl⟩
        have cl := live_made ((hR11.drewN m12).drewN m13) hI9 (by omega) HT.out.1 t ht
        rw [World.drewN_drewN] at cl ⊢
        have hlive : ((liveK (s3.xk t)).length : Int) - ((s3.sl (l, k)).length : Int) = ((liveK (s4.xk t)).length : Int) := by have := HDR.out.live; omega
        have hpz : (s3.pz : Int) - ((s3.pd (l, k)).length : Int) = (s4.pz : Int) := by have := HDR.out.pz; omega
        have hb1 : ((liveK (s4.xk t)).length : Int) ≤ 100000 := by
          have h1 := hI9.zx t ht
          have h2 : (liveK (s4.xk t)).length ≤ (s4.xk t).length := List.length_filter_le _ _
          omega
        have hb2 : (s4.pz : Int) ≤ 100000 := by have := hI9.zz; omega
        have d8 : w11.cell? ⟨s3.D, 8, none⟩ = some (.map s4.pm) := by
          have := hR11.dcell.2.2.1
          rw [HT.out.2.1] at this
          exact this
        have hlen : ∀ ty, (Builtin.len_ #[54] ty #[.map s4.pm]).run Yba.prog (w11.drewN (m12 + m13)) = .ok (.int .i64 (s4.pz : Int)) (w11.drewN (m12 + m13)) := fun ty => (hR11.drewN (m12 + m13)).map.len ty
        clear cn
        go_wp2_with fail
        refine cl.mono ?_
        rintro e w14 ⟨rfl, rfl⟩
        have hzP : ((s3.pd (l, k)).length : Int) ≤ 100000 := by have := hI6.zp l k hl; omega
        go_wp2_with fail
        have hR14 := hR11.drewN (m12 + m13)
        have bF14 := bF.drewN (m12 + m13)
        have c14 := c11.drewN (m12 + m13)
        have hcp14 : s3.pd (l, k) = [] ∨ ∃ g sz c, a8 = some ⟨g, 0, none⟩ ∧ Blk (w11.drewN (m12 + m13)) g 63 sz c ∧ (s3.pd (l, k)).length ≤ sz ∧ ∀ i, i < (s3.pd (l, k)).length → c i = .int .u32 (((s3.pd (l, k)).getD i 0 : Nat) : Int) := by
          rcases HCP.out with h | ⟨g, sz, c, h1, h2, h3, h4⟩
          · exact .inl h
          · exact .inr ⟨g, sz, c, h1, h2.drewN _, h3, h4⟩
        generalize w11.drewN (m12 + m13) = w15 at hR14 bF14 c14 hcp14 ⊢
        clear hR11 b11 bF c11 HCP cl hlen d8
        go_loopg [176] (s3.pd (l, k)).length (fun gk v wr => ∃ i : Nat, gk + i = (s3.pd (l, k)).length ∧ v = .int .i64 (i : Int) ∧ Rep wr s4 ∧ Blk wr E2 26 3 (maskAt s4) ∧ Ch Ea w wr ∧ (s3.pd (l, k) = [] ∨ ∃ g sz c, a8 = some ⟨g, 0, none⟩ ∧ Blk wr g 63 sz c ∧ (s3.pd (l, k)).length ≤ sz ∧ ∀ i, i < (s3.pd (l, k)).length → c i = .int .u32 (((s3.pd (l, k)).getD i 0 : Nat) : Int)))
        case atStart => exact ⟨0, by omega, rfl, hR14, bF14, c14, hcp14⟩
        case round =>
          clear hR14 bF14 c14 hcp14
          obtain ⟨i, hgi, rfl, hR, bF, hC, hcp⟩ := hrel
          by_cases hi : i < (s3.pd (l, k)).length
          · have hiI : (i : Int) < ((s3.pd (l, k)).length : Int) := by omega
            have hcp' : ∃ g sz c, a8 = some ⟨g, 0, none⟩ ∧ Blk wr g 63 sz c ∧ (s3.pd (l, k)).length ≤ sz ∧ ∀ i, i < (s3.pd (l, k)).length → c i = .int .u32 (((s3.pd (l, k)).getD i 0 : Nat) : Int) := by
              rcases hcp with h | h
              · rw [h] at hi
                simp at hi
              · exact h
            obtain ⟨g8, sz8, c8, rfl, bg8, hle8, hc8⟩ := hcp'
            have x8 : wr.cell? ⟨g8, i, none⟩ = some (.int .u32 (((s3.pd (l, k)).getD i 0 : Nat) : Int)) := (bg8.cell (by omega)).trans (congrArg some (hc8 i hi))
            have hmem : (s3.pd (l, k)).getD i 0 ∈ s3.pd (l, k) := by
              have : (s3.pd (l, k)).getD i 0 = (s3.pd (l, k))[i] := by simp [List.getD, hi]
              rw [this]
              exact List.getElem_mem hi
            obtain ⟨ha3, -⟩ := hI6.pin l k _ hl HK.out.1 hmem
            have hph := HDR.out.ph _ hmem
            have HB : Hid ((s3.pd (l, k)).length ≤ sz8 ∧ ∀ i, i < (s3.pd (l, k)).length → c8 i = .int .u32 (((s3.pd (l, k)).getD i 0 : Nat) : Int)) := ⟨hle8, hc8⟩
            generalize (s3.pd (l, k)).getD i 0 = av at x8 ha3 hph
            have ekey : key av l = (av : Int) * 4294967296 + (l : Int) := by unfold key; omega
            have hlk : ∀ W, Rep W s4 → (Instr.lookup 54 (.map s4.pm) (.int .u64 ((av : Int) * 4294967296 + (l : Int))) true).run Yba.prog W = .ok (.tuple #[.agg #[.int .i64 0, .int .u64 0, .pointer none], .bool false]) W := fun W hW => by
              have := hW.map.lookO (key_wf ha3 hl)
              rw [hph, ekey] at this
              exact this
            have hlook1 := hlk _ hR.drew
            have hlook2 := hlk _ (hR.drew.alloc (.cells #[.int .i64 0, .int .u64 0, .pointer none] 75))
            have hlook3 := hlk _ (hR.alloc (.cells #[.int .i64 0, .int .u64 0, .pointer none] 75)).drew
            clear hlk
            have d8 : wr.cell? ⟨s3.D, 8, none⟩ = some (.map s4.pm) := by
              have := hR.dcell.2.2.1
              rw [HT.out.2.1] at this
              exact this
            have ck := pendingKey_any av l wr.drew ha3 hl
            have ck2 := pendingKey_any av l (wr.drew.alloc (.cells #[.int .i64 0, .int .u64 0, .pointer none] 75)) ha3 hl
            have ck3 := pendingKey_any av l (wr.alloc (.cells #[.int .i64 0, .int .u64 0, .pointer none] 75)).drew ha3 hl
            have lD := hR.dcell.1
            obtain ⟨dv, bD⟩ := lD
            have lD := bD.lt
            rw [HT.out.2.1] at lD
            have hRA := (hR.alloc (.cells #[.int .i64 0, .int .u64 0, .pointer none] 75)).drew
            have bFA := (bF.alloc (.cells #[.int .i64 0, .int .u64 0, .pointer none] 75)).drew
            have bgA := (bg8.alloc (.cells #[.int .i64 0, .int .u64 0, .pointer none] 75)).drew
            have cA := (hC.alloc (.cells #[.int .i64 0, .int .u64 0, .pointer none] 75)).drew
            clear ekey hph hmem hcp hle8 hc8 bD dv
            go_upto_region 42 with fail
            have n8 := World.new_ne wr ⟨s3.D, 8, none⟩ d8
            go_region_held3 (fun w' => w'.cell? ⟨s3.D, 8, none⟩ = some (.map s4.pm)) (go_keep) (first | (go_at_call 13; refine ck.mono ?_; rintro e w16 ⟨rfl, rfl⟩) | (go_at_call 13; refine ck2.mono ?_; rintro e w16 ⟨rfl, rfl⟩) | (go_at_call 13; refine ck3.mono ?_; rintro e w16 ⟨rfl, rfl⟩))
            all_goals
              go_wp2_with fail
              go_roundg ((s3.pd (l, k)).length - (i + 1))
              case measure => omega
              case rel => exact ⟨i + 1, by omega, by go_num, hRA, bFA, cA, .inr ⟨g8, sz8, c8, rfl, bgA, HB.out.1, HB.out.2⟩⟩
          · have : i = (s3.pd (l, k)).length := by omega
            subst this
            have ci := isContested_made hR HT.out.2.2 l hl
            rw [HT.out.2.1] at ci
            have xl := bF.cell (i := l) (by omega)
            unfold maskAt at xl
            have hz4 := msk_zero hI9 hl
            have hct := HDR.out.ct
            have HI : Hid ((msk s4 l (s4.hn l) = 0 ↔ s4.hn l = 0) ∧ (s4.ct l ≠ 0 ↔ s3.ct l ≠ 0 ∧ s4.hn l ≠ 0)) := ⟨hz4, hct⟩
            clear hz4 hct
            obtain ⟨bc, hbc⟩ : ∃ bc, bc = !decide (s3.ct l = 0) := ⟨_, rfl⟩
            rw [← hbc]
            have HBC : Hid (bc = !decide (s3.ct l = 0)) := hbc
            clear hbc
            go_upto_region 46 with fail
            go_cut [203] from 193 to 202 (fun v wx => v = .bool false ∧ ∃ m, wx = wr.drewN m)
            case first =>
              by_cases hc3 : s3.ct l = 0
              · have hc4 : s4.ct l = 0 := by
                  by_cases h : s4.ct l = 0
                  · exact h
                  · exact absurd hc3 (HI.out.2.1 h).1
                have hb : bc = false := by rw [HBC.out]; simp [hc3]
                subst hb
                have hc4D : decide (s4.ct l = 0) = true := by simp [hc4]
                clear hc3 hc4
                go_wp2_with fail
                refine ci.mono ?_
                rintro e w16 ⟨rfl, m16, rfl⟩
                go_wp2_with fail
                go_meet
                exact ⟨rfl, m16, rfl⟩
              · have hb : bc = true := by rw [HBC.out]; simp [hc3]
                subst hb
                by_cases hn4 : s4.hn l = 0
                · have hc4 : s4.ct l = 0 := by
                    by_cases h : s4.ct l = 0
                    · exact h
                    · exact absurd hn4 (HI.out.2.1 h).2
                  have hc4D : decide (s4.ct l = 0) = true := by simp [hc4]
                  have hm : msk s4 l (s4.hn l) = 0 := HI.out.1.2 hn4
                  rw [hm] at xl
                  clear hc3 hc4 hn4 hm
                  go_wp2_with fail
                  refine ci.mono ?_
                  rintro e w16 ⟨rfl, m16, rfl⟩
                  go_wp2_with fail
                  go_meet
                  exact ⟨rfl, m16, rfl⟩
                · have hc4 : s4.ct l ≠ 0 := HI.out.2.2 ⟨hc3, hn4⟩
                  have hc4D : decide (s4.ct l = 0) = false := by simp [hc4]
                  have hm : ((msk s4 l (s4.hn l) : Int) == 0) = false := by
                    simp only [beq_eq_false_iff_ne]
                    have : msk s4 l (s4.hn l) ≠ 0 := fun h => hn4 (HI.out.1.1 h)
                    omega
                  clear hc3 hc4 hn4
                  go_wp2_with fail
                  refine ci.mono ?_
                  rintro e w16 ⟨rfl, m16, rfl⟩
                  go_wp2_with fail
                  go_meet
                  exact ⟨by simp [bne, hm], m16, rfl⟩
            case rest =>
              obtain ⟨rfl, m16, rfl⟩ := hcut
              have cc := contestedok_made (hR.drewN m16) hI9 (by omega) HT.out.2.2
              rw [HT.out.2.1] at cc
              have y0 : wr.cell? ⟨E2, 0, none⟩ = some (.int .u8 (msk s4 0 (s4.hn 0) : Int)) := bF.cell (by omega)
              have y1 : wr.cell? ⟨E2, 1, none⟩ = some (.int .u8 (msk s4 1 (s4.hn 1) : Int)) := bF.cell (by omega)
              have y2 : wr.cell? ⟨E2, 2, none⟩ = some (.int .u8 (msk s4 2 (s4.hn 2) : Int)) := bF.cell (by omega)
              clear ci xl
              go_wp2_with fail
              refine cc.mono ?_
              rintro e w17 ⟨rfl, m17, rfl⟩
              have ct := threadok_made ((hR.drewN m16).drewN m17) hI9 (by omega) HT.out.2.2 HT.out.1 t ht
              rw [HT.out.2.1] at ct
              unfold masksV at ct
              rw [World.drewN_drewN] at ct ⊢
              clear cc
              go_wp2_with fail
              refine ct.mono ?_
              rintro e w18 ⟨rfl, m18, o18, rfl⟩
              go_wp2
              go_ret
              exact ⟨rfl, ((hC.drewN _).alloc _).drewN _⟩

#print axioms law_walk
end Go.Proofs.Ybulkbzhm
