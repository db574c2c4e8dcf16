/-
  pend.
-/
import Derived.Test.YbulkbzhmMap
import Derived.Test.YbulkbzhmAdd
namespace Go.Proofs.Ybulkbzhm
set_option linter.unusedSectionVars false
variable [Base]
open Go.RowKit Go.Maps
open Go.WideShapes (add_plain)

theorem info63 : (Yba.prog.info? 63).map (fun i => (i.zero, i.size, i.bytes)) = some (some (.int .u32 0), 1, 4) := by kernel_rfl

theorem Rep.dcell {w : World} {s : St} (h : Rep w s) : (∃ dv, Blk w s.D 56 9 dv) ∧ w.cell? ⟨s.D, 7, none⟩ = some (s.qv 3) ∧ w.cell? ⟨s.D, 8, none⟩ = some (.map s.pm) ∧ ∀ i, w.frozen? ⟨s.D, i, none⟩ = false := by
  obtain ⟨dv, b, sg, st, d7, d8⟩ := h.d
  exact ⟨⟨dv, b⟩, (b.cell (by omega)).trans (by rw [d7]), (b.cell (by omega)).trans (by rw [d8]), b.frozen⟩

attribute [-go_sem] Builtin.append_ in
set_option maxRecDepth 100000 in
set_option maxHeartbeats 2000000 in
theorem pend_rep {w : World} {s : St} {N LS : Nat} (h : Rep w s) (hI : Inv N s) (hN : N ≤ 5000) (hL : s.L = some LS) (t l a : Nat) (hl : l ≤ 2) (ha : a ≤ 3) (hhas : ∃ k, k < s.hn l ∧ s.th (l, k) = t) :
    Calls Yba.prog 17 #[.pointer (some ⟨s.D, 0, none⟩), .int .i64 (t : Int), .int .i64 (l : Int), .int .u32 (a : Int), .agg #[.int .i64 0, .int .u64 0, .pointer none]] w fun e w' => e = .returned (.tuple #[]) ∧ ∃ s', Rep w' s' ∧ Inv (N + 1) s' ∧ s'.D = s.D ∧ s'.cb = s.cb ∧ Ch Ea w w' := by
  have hA := h.alloc (.cells #[.int .i64 0, .int .u64 0, .pointer none] 75)
  have bA : Blk (w.alloc (.cells #[.int .i64 0, .int .u64 0, .pointer none] 75)) w.heap.size 75 3 (fun j => if j = 0 then .int .i64 0 else if j = 1 then .int .u64 0 else .pointer none) := Blk.new w _ 75 h.base rfl fun j hj => by
    have : j = 0 ∨ j = 1 ∨ j = 2 := by omega
    rcases this with rfl | rfl | rfl <;> rfl
  have cA : Ch Ea w (w.alloc (.cells #[.int .i64 0, .int .u64 0, .pointer none] 75)) := (Ch.refl _ w).alloc _
  have lB : w.heap.size < (w.alloc (.cells #[.int .i64 0, .int .u64 0, .pointer none] 75)).heap.size := bA.lt
  have heg : ∀ (W : World) (x y : Operand), (eqGuard .eql 54 x y (.map s.pm) (.map none)).run Yba.prog W = .ok () W := fun W x y => by
    cases s.pm <;> go_simp
  have heq : ∀ W : World, (binOp .eql 54 (.map s.pm) (.map none)).run Yba.prog W = .ok (.bool s.pm.isNone) W := fun W => by
    have hd : ∀ d : Nat, (Op.equalIn (d + 1) 54 (.map s.pm) (.map none)).run Yba.prog W = .ok s.pm.isNone W := fun d => by
      cases s.pm <;> simp [Op.equalIn, run_underlying Yba.underlying54]
    simp only [binOp]
    simp [Op.equal, Op.maxDepth, hd 9999]
  have hmm := @run_makeMap Yba.prog
  obtain ⟨⟨dv, bD⟩, -, d8, zD⟩ := hA.dcell
  go_enter Yba.func17, Yba.ntmps17
  go_upto_if 18 with fail
  generalize w.heap.size = B at bA lB ⊢
  generalize w.alloc (.cells #[.int .i64 0, .int .u64 0, .pointer none] 75) = wA at *
  go_cut [] (fun wx => ∃ b, Rep wx { s with pm := some b } ∧ Ch Ea w wx ∧ Blk wx B 75 3 (fun j => if j = 0 then .int .i64 0 else if j = 1 then .int .u64 0 else .pointer none))
  case first =>
    cases hpm : s.pm with
    | none =>
      obtain ⟨r1, r2, -, -⟩ := hA.newMap hpm
      have lD := bD.lt
      rw [World.setCell_alloc_past _ _ _ _ lD] at r1 r2
      go_wp2_with fail
      go_meet
      exact ⟨_, r1, cA.trans (r2.mono fun e he => by unfold Ea; simp [he]), r2.blk bA (by decide)⟩
    | some b =>
      have hs : { s with pm := some b } = s := by
        cases s
        simp at hpm ⊢
        exact hpm.symm
      go_wp2_with fail
      go_meet
      exact ⟨b, by rw [hs]; exact hA, cA, bA⟩
  case rest =>
    clear hA bA cA lB d8 zD bD
    obtain ⟨b, hR, hC, bB⟩ := hcut
    have ck := pendingKey_any a l wc ha hl
    go_wp2_with fail
    refine ck.mono ?_
    rintro e w1 ⟨rfl, rfl⟩
    have ekey : ((a * 4294967296 + l : Nat) : Int) = (a : Int) * 4294967296 + (l : Int) := by omega
    have hlook := hR.map.look (key_wf ha hl)
    obtain ⟨⟨dv, bD⟩, -, d8, zD⟩ := hR.dcell
    have lD := bD.lt
    have lB := bB.lt
    unfold key at hlook
    rw [ekey] at hlook
    unfold cm0 at hlook
    simp only at d8 hlook
    obtain ⟨ok, hok⟩ : ∃ ok, ok = s.ph (key a l) := ⟨_, rfl⟩
    have hok' : s.ph ((a : Int) * 4294967296 + (l : Int)) = ok := by rw [hok]; unfold key; rw [ekey]
    rw [hok'] at hlook
    have HOK : Hid (ok = s.ph (key a l)) := hok
    have HEK : Hid (((a * 4294967296 + l : Nat) : Int) = (a : Int) * 4294967296 + (l : Int)) := ekey
    have HHAS : Hid (∃ k, k < s.hn l ∧ s.th (l, k) = t) := hhas
    clear hok hok' ekey heg heq hmm ck hhas
    go_upto_if 36 with fail
    have hR1 := hR.alloc (.cells #[.int .i64 0, .int .u64 0, .pointer none] 75)
    have hC1 := hC.alloc (.cells #[.int .i64 0, .int .u64 0, .pointer none] 75)
    have bB1 := bB.alloc (.cells #[.int .i64 0, .int .u64 0, .pointer none] 75)
    clear hR hC bB hlook bD d8 zD lD lB
    generalize w1.alloc (.cells #[.int .i64 0, .int .u64 0, .pointer none] 75) = w2 at hR1 hC1 bB1 ⊢
    go_cut [] (fun wx => ∃ pv' pd', Rep wx { s with pm := some b, pv := pv', pd := pd' } ∧ (ok = true → pd' = s.pd) ∧ (ok = false → ∃ k, k < s.hn l ∧ pd' = upd s.pd (l, k) (s.pd (l, k) ++ [a])) ∧ Ch Ea w wx ∧ Blk wx B 75 3 (fun j => if j = 0 then .int .i64 0 else if j = 1 then .int .u64 0 else .pointer none))
    case first =>
      cases ok with
      | true =>
        go_wp2_with fail
        go_meet
        exact ⟨s.pv, s.pd, hR1, fun _ => rfl, fun h => by simp at h, hC1, bB1⟩
      | false =>
        have ch := hold_made hR1 (LS := LS) hL t l hl
        go_wp2_with fail
        refine ch.mono ?_
        rintro e w3 ⟨hp, rfl, hheld, m3, rfl⟩
        have hR3 := hR1.drewN m3
        have hC3 := hC1.drewN m3
        have bB3 := bB1.drewN m3
        clear hR1 hC1 bB1 ch
        generalize w2.drewN m3 = w3 at hR3 hC3 bB3 ⊢
        rcases hheld with ⟨_, hno⟩ | ⟨k, g, hk1, hk2, hv1, rfl⟩
        · obtain ⟨k0, a1, a2⟩ := HHAS.out
          exact absurd a2 (hno k0 a1)
        have hkc : k < s.hc l := Nat.lt_of_lt_of_le hk1 (hR3.holds.val l).2.1
        obtain ⟨⟨c66, b66⟩, -, -, -, hg5, z66⟩ := hR3.hcell (l := l) (k := k) (g := g) hv1 hkc
        have hrow := hR3.pends.row (l, k)
        obtain ⟨ap, cp, hpv⟩ := hrow.val
        have hsl := (hR3.alloc (.cells #[.int .u32 (a : Int)] 63)).pends.row (l, k) |>.slice
        obtain ⟨v7, w7, hr7, ha7⟩ := run_append1 (P := Yba.prog) (w3.alloc (.cells #[.int .u32 (a : Int)] 63)) (by have := b66.room; simp; omega) 60 60 63 Yba.underlying60 info63 rfl (s.pv (l, k)) (s.pd (l, k)).length _ hsl ⟨w3.heap.size, 0, none⟩ 1 (fun _ => .int .u32 (a : Int)) (one_new _ _ _) (fun _ _ => rfl) (by have := hI.zp l k hl; omega) (by have := hI.zp l k hl; unfold maxLen; omega)
        obtain ⟨g7, o7, c7, rfl⟩ := ha7.val
        have b7 := ha7.other hsl (b66.alloc _) (by decide)
        obtain ⟨hR7, hC7⟩ := hR3.appendPend (x := a) hv1 hkc _ ha7
        have bB7 := hC7.blk bB3 (by decide)
        have z7 := b7.frozen
        have c7' := b7.cell (i := k * 4 + 3) (by show k * 4 + 3 < s.hc l * 4; omega)
        have l66 := b66.lt
        have hpv' : s.pv (l, k) = .slice ap (s.pd (l, k)).length cp := hpv
        have hg5' : w3.cell? ⟨g, k * 4 + 3, none⟩ = some (.slice ap (s.pd (l, k)).length cp) := by rw [hg5]; exact congrArg some hpv'
        rw [hpv'] at hr7
        clear hg5 hpv hpv' hsl hrow
        go_wp2_with fail
        go_meet
        exact ⟨_, _, hR7, fun h => by simp at h, fun _ => ⟨k, hk1, rfl⟩, hC3.trans (hC7.mono fun e he => by unfold Ea; rcases he with h | h <;> simp [h]), bB7⟩
    case rest =>
      clear hR1 hC1 bB1
      obtain ⟨pv', pd', hR, hp1, hp2, hC, bB⟩ := hcut
      have HP1 : Hid (ok = true → pd' = s.pd) := hp1
      have HP2 : Hid (ok = false → ∃ k, k < s.hn l ∧ pd' = upd s.pd (l, k) (s.pd (l, k) ++ [a])) := hp2
      clear hp1 hp2
      obtain ⟨⟨dv, bD⟩, -, d8, zD⟩ := hR.dcell
      simp only at d8
      have hRd := hR.drew
      obtain ⟨w5, hput, hM5, hT5⟩ := hRd.map.put (b := b) (by show s.pz < maxLen; have := hI.zz; unfold maxLen; omega) (key_wf ha hl)
      obtain ⟨hR5, hC5⟩ := hRd.mkMap rfl hT5 hM5
      unfold key at hput
      rw [HEK.out] at hput
      unfold cm0 at hput
      have x0 := bB.cell (i := 0) (by omega)
      have x1 := bB.cell (i := 1) (by omega)
      have x2 := bB.cell (i := 2) (by omega)
      simp only at x0 x1 x2
      go_wp2_with fail
      go_region
      all_goals refine ?main
      go_wp2
      go_end0
      have hC6 : Ch Ea w w5 := (hC.drew).trans (hC5.mono fun e he => by unfold Ea; simp [he])
      cases ok with
      | true =>
        have e1 := HP1.out rfl
        subst e1
        have hkey := HOK.out
        refine ⟨rfl, _, hR5, ?_, rfl, rfl, hC6⟩
        have e2 : (fun y => if y = key a l then true else s.ph y) = s.ph := by
          funext y
          by_cases e : y = key a l
          · rw [if_pos e, e]
            exact hkey
          · rw [if_neg e]
        have e3 : (if s.ph (key a l) = true then s.pz else s.pz + 1) = s.pz := if_pos hkey.symm
        show Inv (N + 1) { { s with pm := some b, pv := pv', pd := s.pd } with pz := if s.ph (key a l) = true then s.pz else s.pz + 1, ph := fun y => if y = key a l then true else s.ph y }
        rw [e2, e3]
        have h1 := hI.mono (Nat.le_succ N)
        exact ⟨h1.thr, h1.thd, h1.lk, h1.kl, h1.sin, h1.snd, h1.sdj, h1.room, h1.pin, h1.pnd, h1.pdj, h1.cin, h1.cct, h1.kd, h1.b5, h1.b8, h1.zx, h1.zq, h1.zh, h1.zs, h1.zp, h1.zz⟩
      | false =>
        obtain ⟨k, hk, rfl⟩ := HP2.out rfl
        have hkey := HOK.out
        refine ⟨rfl, _, hR5, ?_, rfl, rfl, hC6⟩
        have e3 : (if s.ph (key a l) = true then s.pz else s.pz + 1) = s.pz + 1 := if_neg (by rw [← hkey]; simp)
        show Inv (N + 1) { { s with pm := some b, pv := pv', pd := upd s.pd (l, k) (s.pd (l, k) ++ [a]) } with pz := if s.ph (key a l) = true then s.pz else s.pz + 1, ph := fun y => if y = key a l then true else s.ph y }
        rw [e3]
        exact hI.pend hl hk ha hkey.symm pv' (some b)

#print axioms pend_rep
end Go.Proofs.Ybulkbzhm
