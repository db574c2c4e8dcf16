/-
  contest.
-/
import Derived.Test.YbulkbzhmContA
namespace Go.Proofs.Ybulkbzhm
set_option linter.unusedSectionVars false
variable [Base]
open Go.RowKit Go.Maps
open Go.WideShapes (add_plain)

/-- What contest leaves alone. -/
structure Same (s s' : St) (LS : Nat) : Prop where
  D : s'.D = s.D
  cb : s'.cb = s.cb
  L : s'.L = some LS
  hv : s'.hv = s.hv
  hn : s'.hn = s.hn
  hc : s'.hc = s.hc
  th : s'.th = s.th
  sv : s'.sv = s.sv
  sl : s'.sl = s.sl

theorem Same.trans {s s1 s2 : St} {LS : Nat} (h : Same s s1 LS) (k : Same s1 s2 LS) : Same s s2 LS := ⟨k.D.trans h.D, k.cb.trans h.cb, k.L, k.hv.trans h.hv, k.hn.trans h.hn, k.hc.trans h.hc, k.th.trans h.th, k.sv.trans h.sv, k.sl.trans h.sl⟩

theorem MapK.some_of {w : World} {pm : Option Nat} {z : Nat} {f : Int → Bool} (h : MapK w pm z f) {x : Int} (hx : f x = true) : ∃ b, pm = some b := by
  rcases h with ⟨_, _, h2⟩ | ⟨b, _, h0, _⟩
  · rw [h2] at hx
    simp at hx
  · exact ⟨b, h0⟩

set_option maxRecDepth 100000 in
set_option maxHeartbeats 4000000 in
theorem contest_rep {w : World} {s : St} {N : Nat} (h : Rep w s) (hI : Inv N s) (hN : N ≤ 5000) (l G : Nat) (hl : l ≤ 2) (hG : Blk w G 25 1 (fun _ => .pointer (some ⟨s.cb, 0, none⟩))) :
    Calls Yba.prog 18 #[.pointer (some ⟨s.D, 0, none⟩), .int .i64 (l : Int), .func (.func 15) #[] #[.pointer (some ⟨G, 0, none⟩)]] w fun e w' => e = .returned (.tuple #[]) ∧ ∃ s', Rep w' s' ∧ Inv (N + 1) s' ∧ s'.D = s.D ∧ s'.cb = s.cb ∧ Ch Ea w w' := by
  have cl := get19_rep h l hl
  go_enter Yba.func18, Yba.ntmps18
  go_wp2_with fail
  refine cl.mono ?_
  rintro e w1 ⟨LS, rfl, hLx, hR1, hC1⟩
  obtain ⟨lc, b0, b1, b2, b3⟩ := hR1.ld (LS := LS) rfl hl
  have c1 : Ch Ea w w1 := hC1.mono fun e he => Ea.of_El he
  have hG1 := hC1.blk hG (by decide)
  have hI1 := hI.setL (some LS)
  simp only at b1 b2
  by_cases h0 : s.ct l = 0
  · have h0I : (((s.ct l : Nat) : Int) == 0) = true := by simp [h0]
    obtain ⟨⟨dv, bD⟩, d7, -, zD⟩ := hR1.dcell
    have hrow := hR1.locks.row 3
    have cl2 := llAdd s.D 7 9 (s.ql 3).length l 56 (s.qv 3) _ dv w1 bD (by omega) (by
      have := bD.cell (i := 7) (by omega)
      have d7' : w1.cell? ⟨s.D, 7, none⟩ = some (s.qv 3) := d7
      rw [d7'] at this
      simpa using this.symm) (by decide) hrow.slice (by have := hI.zq 3 (by omega); omega)
    rw [h0] at b2
    go_wp2_with fail
    refine cl2.mono ?_
    rintro e w2 ⟨rfl, vq, wq, hap, rfl⟩
    obtain ⟨hR2, hC2⟩ := hR1.contAdd _ hap
    have c2 : Ch Ea w _ := c1.trans (hC2.mono fun e he => by unfold Ea; rcases he with h | h <;> simp [h])
    have hG2 := hC2.blk hG1 (by decide)
    have hD2 : ({ s with L := some LS } : St).D = s.D := rfl
    rw [hD2] at hR2 c2 hG2
    clear hap hC2 cl2 hrow bD d7 zD b0 b1 b2 b3 hC1 c1 hG1 hR1 hG cl
    generalize wq.setCell ⟨s.D, 7, none⟩ vq = w2 at hR2 c2 hG2 ⊢
    obtain ⟨hR3, hC3⟩ := hR2.setCt (LS := LS) rfl hl ((s.ql 3).length + 1)
    have c3 : Ch Ea w _ := c2.trans (hC3.mono fun e he => by unfold Ea; simp [he])
    have hG3 := hC3.blk hG2 (by decide)
    have hI3 := hI1.contAdd hl h0 (upd s.qv 3 vq) (upd_other _ _ (by omega))
    obtain ⟨lc, b0, b1, b2, b3⟩ := hR2.ld (LS := LS) rfl hl
    obtain ⟨lc', b0', b1', -, -⟩ := hR3.ld (LS := LS) rfl hl
    obtain ⟨⟨ah, hhv⟩, hnc, hcm⟩ := h.holds.val l
    have hS : Same s { { { s with L := some LS } with qv := upd s.qv 3 vq, ql := upd s.ql 3 (s.ql 3 ++ [l]) } with ct := upd s.ct l ((s.ql 3).length + 1) } LS := ⟨rfl, rfl, rfl, rfl, rfl, rfl, rfl, rfl, rfl⟩
    have hq3 : ((s.ql 3).length : Int) ≤ 6000 := by have := hI.zq 3 (by omega); omega
    have hcast : (((s.ql 3).length + 1 : Nat) : Int) = ((s.ql 3).length : Int) + 1 := rfl
    rw [hcast] at hR3 c3 hG3 b1'
    simp only at b1 b1' b2
    rw [hhv] at b1'
    have HV : Hid (s.hv l = .slice ah (s.hn l) (s.hc l)) := hhv
    have H0 : Hid (s.ct l = 0) := h0
    clear hhv h0 h0I hcast hR2 c2 hG2 hC3 b1 hI1 b0'
    have hnI : (s.hn l : Int) ≤ 5000 := by have := hI.zh l hl; omega
    go_wp2_with fail
    go_loopg [39] (s.hn l) (fun gk v wr => ∃ (k : Nat) (s3 : St), gk + k = s.hn l ∧ v = .int .i64 (k : Int) ∧ Rep wr s3 ∧ Inv (N + 1) s3 ∧ Same s s3 LS ∧ Ch Ea w wr ∧ Blk wr G 25 1 (fun _ => .pointer (some ⟨s.cb, 0, none⟩)))
    case atStart => exact ⟨0, _, by omega, rfl, hR3, hI3, hS, c3, hG3⟩
    case round =>
      clear hR3 hI3 hS c3 hG3 b0 b1' b2 b3 hq3 hnc hcm
      obtain ⟨k, s3, hgk, rfl, hR, hI3, hS, hC, hG⟩ := hrel
      by_cases hk : k < s.hn l
      · have hkI : (k : Int) < (s.hn l : Int) := by omega
        have hk3 : k < s3.hn l := by rw [hS.hn]; exact hk
        have hkc : k < s3.hc l := Nat.lt_of_lt_of_le hk3 (hR.holds.val l).2.1
        obtain ⟨g, cg, hg1, hg2, hg3, -, hg5, hg6, hg7⟩ := hR.holds.at hkc
        obtain ⟨t, ht0⟩ : ∃ t, t = s3.th (l, k) := ⟨_, rfl⟩
        have ht : t ≤ 2 := by rw [ht0]; exact hI3.thr l k hl hk3
        rw [← ht0] at hg3
        have hv3 : s3.hv l = .slice (some ⟨g, 0, none⟩) (s.hn l) (s.hc l) := by rw [hg1, hS.hn, hS.hc]
        obtain ⟨lc, b0, b1, b2, b3⟩ := hR.ld hS.L hl
        rw [hv3] at b1
        have cl2 := get20_rep hR.drew t ht
        rw [hS.D] at cl2
        have HT : Hid (t = s3.th (l, k)) := ht0
        have HV3 : Hid (s3.hv l = .slice (some ⟨g, 0, none⟩) (s.hn l) (s.hc l)) := hv3
        clear ht0 hg1 hv3
        go_upto_region 7 with fail
        go_cut [9] (fun v wx => ∃ TS, v = .pointer (some ⟨TS, t * 8, none⟩) ∧ Rep wx { s3 with T := some TS } ∧ Ch Ea w wx ∧ Blk wx G 25 1 (fun _ => .pointer (some ⟨s.cb, 0, none⟩)))
        case first =>
          go_region_with (go_at_call 20; refine cl2.mono ?_; rintro e w4 ⟨TS, rfl, hTx, hR4, hC4⟩)
          all_goals
            go_wp2_with fail
            go_meet
            exact ⟨TS, rfl, by rw [← hS.D] at hR4; exact hR4, hC.drew.trans (hC4.mono fun e he => by unfold Ea; rcases he with h | h | h <;> simp [h]), hC4.blk hG.drew (by decide)⟩
        case rest =>
          clear hR hC hG cl2 b0 b1 b2 b3 hg2 hg3 hg5 hg6 hg7
          obtain ⟨TS, rfl, hR, hC, hG⟩ := hcut
          have hI4 := hI3.setT (some TS)
          have hS4 : Same s { s3 with T := some TS } LS := ⟨hS.D, hS.cb, hS.L, hS.hv, hS.hn, hS.hc, hS.th, hS.sv, hS.sl⟩
          obtain ⟨as1, cs1, hsv⟩ := (hR.slots.row (l, k)).val
          obtain ⟨L, hL⟩ : ∃ L, L = s3.sl (l, k) := ⟨_, rfl⟩
          have hsv' : s3.sv (l, k) = .slice as1 L.length cs1 := by rw [hL]; exact hsv
          have hv4 : s3.hv l = .slice (some ⟨g, 0, none⟩) (s3.hn l) (s3.hc l) := by rw [HV3.out, hS.hn, hS.hc]
          have hg5 := (hR.hcell (l := l) (k := k) (g := g) hv4 hkc).2.2.2.1
          have hg5' : wc.cell? ⟨g, k * 4 + 2, none⟩ = some (.slice as1 L.length cs1) := by rw [hg5]; exact congrArg some hsv'
          have hLz : (L.length : Int) ≤ 6000 := by rw [hL]; have := hI3.zs l k hl; omega
          have HSV : Hid (s3.sv (l, k) = .slice as1 L.length cs1) := hsv'
          have HL : Hid (L = s3.sl (l, k)) := hL
          have HT4 : Hid (({ s3 with T := some TS } : St).T = some TS) := rfl
          generalize ({ s3 with T := some TS } : St) = s4 at hR hI4 hS4 HT4
          have HSL4 : Hid (s4.sl (l, k) = L ∧ s4.sv (l, k) = .slice as1 L.length cs1 ∧ s4.th (l, k) = t ∧ s4.hv l = .slice (some ⟨g, 0, none⟩) (s4.hn l) (s4.hc l) ∧ k < s4.hn l ∧ k < s4.hc l) := by
            refine ⟨?_, ?_, ?_, ?_, ?_, ?_⟩
            · rw [hS4.sl, ← hS.sl]; exact HL.out.symm
            · rw [hS4.sv, ← hS.sv]; exact HSV.out
            · rw [hS4.th, ← hS.th]; exact HT.out.symm
            · rw [hS4.hv, ← hS.hv, HV3.out, hS4.hn, hS4.hc]
            · rw [hS4.hn]; exact hk
            · rw [hS4.hc, ← hS.hc]; exact hkc
          clear hg5 hsv hsv' hL hv4 hk3 HV3 HSV HL HT hS hI3 hkc
          go_wp2_with fail
          go_loopg [61] L.length (fun g2 v wr => ∃ (j : Nat) (s5 : St), g2 + j = L.length ∧ v = .int .i64 (j : Int) ∧ Rep wr s5 ∧ Inv (N + 1) s5 ∧ Same s4 s5 LS ∧ s5.T = some TS ∧ Ch Ea w wr ∧ Blk wr G 25 1 (fun _ => .pointer (some ⟨s.cb, 0, none⟩)))
          case atStart => exact ⟨0, s4, by omega, rfl, hR, hI4, ⟨rfl, rfl, hS4.L, rfl, rfl, rfl, rfl, rfl, rfl⟩, HT4.out, hC, hG⟩
          case round =>
            clear hR hI4 hC hG hg5' HT4
            obtain ⟨j, s5, hgj, rfl, hR, hI5, hS5, hT5, hC, hG⟩ := hrel
            obtain ⟨e1, e2, e3, e4, e5, e6⟩ := HSL4.out
            by_cases hj : j < L.length
            · have hjI : (j : Int) < (L.length : Int) := by omega
              have hsl5 : s5.sl (l, k) = L := by rw [hS5.sl]; exact e1
              obtain ⟨gs, capx, szs, cs, hx1, -, hx2, hx3, hx4, hx5⟩ := (hR.slots.row (l, k)).at (i := j) (by rw [hsl5]; exact hj)
              have hx1' : s5.sv (l, k) = .slice as1 L.length cs1 := by rw [hS5.sv]; exact e2
              rw [hx1', hsl5] at hx1
              simp at hx1
              obtain ⟨rfl, rfl⟩ := hx1
              obtain ⟨n, hn0⟩ : ∃ n, n = L.getD j 0 := ⟨_, rfl⟩
              rw [hsl5, ← hn0] at hx5
              have hmem : n ∈ s5.sl (l, k) := by
                rw [hsl5, hn0]
                have : L.getD j 0 = L[j] := by simp [List.getD, hj]
                rw [this]
                exact List.getElem_mem hj
              have hkn : k < s5.hn l := by rw [hS5.hn]; exact e5
              obtain ⟨hin1, -⟩ := hI5.sin l k n hl hkn hmem
              have hth5 : s5.th (l, k) = t := by rw [hS5.th]; exact e3
              rw [hth5] at hin1
              have hzx := hI5.zx t ht
              have cx := scontest_any (hR.thrP hT5) t ht (by omega) n hin1
              have HIN : Hid (n < (s5.xk t).length) := hin1
              clear e1 e2 e3 e4 e5 e6 hsl5 hx1' hn0 hmem hkn hin1 hth5 hzx
              go_wp2_with fail
              refine cx.mono ?_
              rintro e w6 ⟨rfl, hP6, hC6⟩
              go_wp2_with fail
              go_roundg (L.length - (j + 1))
              case measure => omega
              case rel =>
                have hR6 := hR.mkThr hC6 hT5 hP6
                exact ⟨j + 1, _, by omega, by go_num, hR6, hI5.setKind HIN.out, ⟨hS5.D, hS5.cb, hS5.L, hS5.hv, hS5.hn, hS5.hc, hS5.th, hS5.sv, hS5.sl⟩, hT5, hC.trans (hC6.mono fun e he => Ea.of_Et he), hC6.blk hG (by unfold Et; decide)⟩
            · have hjD : decide ((j : Int) < (L.length : Int)) = false := by simp; omega
              obtain ⟨ap, cp, hpv⟩ := (hR.pends.row (l, k)).val
              obtain ⟨P, hP0⟩ : ∃ P, P = s5.pd (l, k) := ⟨_, rfl⟩
              rw [← hP0] at hpv
              have hv5 : s5.hv l = .slice (some ⟨g, 0, none⟩) (s5.hn l) (s5.hc l) := by rw [hS5.hv, e4, hS5.hn, hS5.hc]
              have hkc5 : k < s5.hc l := by rw [hS5.hc]; exact e6
              have hkn5 : k < s5.hn l := by rw [hS5.hn]; exact e5
              have hg6 := (hR.hcell (l := l) (k := k) (g := g) hv5 hkc5).2.2.2.2.1
              rw [hpv] at hg6
              have hPz : (P.length : Int) ≤ 6000 := by rw [hP0]; have := hI5.zp l k hl; omega
              have HP0 : Hid (P = s5.pd (l, k)) := hP0
              have HPV : Hid (s5.pv (l, k) = .slice ap P.length cp) := hpv
              have HV5 : Hid (s5.hv l = .slice (some ⟨g, 0, none⟩) (s5.hn l) (s5.hc l) ∧ k < s5.hc l ∧ k < s5.hn l) := ⟨hv5, hkc5, hkn5⟩
              clear hP0 hpv hv5 hkc5 hkn5 e1 e2 e3 e4 e5 e6
              go_wp2_with fail
              go_loopg [76] P.length (fun g3 v wx => ∃ (i : Nat) (s6 : St), g3 + i = P.length ∧ v = .int .i64 (i : Int) ∧ Rep wx { s6 with pd := upd s6.pd (l, k) P } ∧ Inv (N + 1) s6 ∧ s6.pd (l, k) = P.drop i ∧ s6.pv (l, k) = .slice ap P.length cp ∧ Same s5 s6 LS ∧ Ch Ea w wx ∧ Blk wx G 25 1 (fun _ => .pointer (some ⟨s.cb, 0, none⟩)))
              case atStart =>
                refine ⟨0, s5, by omega, rfl, ?_, hI5, by rw [← HP0.out]; simp, HPV.out, ⟨rfl, rfl, hS5.L, rfl, rfl, rfl, rfl, rfl, rfl⟩, hC, hG⟩
                rw [HP0.out, upd_self]
                exact hR
              case round =>
                clear hR hI5 hC hG hg6
                obtain ⟨i, s6, hgi, rfl, hR, hI6, hpd6, hpv6, hS6, hC, hG⟩ := hrel
                have HPD : Hid (s6.pd (l, k) = P.drop i) := hpd6
                have HPV6 : Hid (s6.pv (l, k) = .slice ap P.length cp) := hpv6
                clear hpd6 hpv6
                have HD6 : Hid (s6.D = s.D ∧ s6.cb = s.cb) := ⟨hS6.D.trans (hS5.D.trans hS4.D), hS6.cb.trans (hS5.cb.trans hS4.cb)⟩
                by_cases hi : i < P.length
                · have hiI : (i : Int) < (P.length : Int) := by omega
                  obtain ⟨a, ha0⟩ : ∃ a, a = P.getD i 0 := ⟨_, rfl⟩
                  have hdrop : s6.pd (l, k) = a :: P.drop (i + 1) := by
                    rw [HPD.out, List.drop_eq_getElem_cons hi, ha0]
                    simp [List.getD, hi]
                  have hkn6 : k < s6.hn l := by rw [hS6.hn]; exact HV5.out.2.2
                  obtain ⟨ha3, hph⟩ := hI6.pin l k a hl hkn6 (by rw [hdrop]; simp)
                  obtain ⟨gs, capx, szs, cs, hx1, -, hx2, hx3, hx4, hx5⟩ := (hR.pends.row (l, k)).at (i := i) (by show i < (upd s6.pd (l, k) P (l, k)).length; rw [upd_same]; exact hi)
                  have hx1' : s6.pv (l, k) = .slice (some ⟨gs, 0, none⟩) (upd s6.pd (l, k) P (l, k)).length capx := hx1
                  rw [HPV6.out, upd_same] at hx1'
                  simp at hx1'
                  obtain ⟨rfl, rfl⟩ := hx1'
                  have hx5' : wr.cell? ⟨gs, i, none⟩ = some (.int .u32 (a : Int)) := by
                    rw [hx5]
                    show some (Value.int IntKind.u32 (((upd s6.pd (l, k) P (l, k)).getD i 0 : Nat) : Int)) = _
                    rw [upd_same, ha0]
                  obtain ⟨b, hpm⟩ := hR.map.some_of hph
                  have hpm' : s6.pm = some b := hpm
                  have hmap : MapK wr (some b) s6.pz s6.ph := by
                    have : MapK wr s6.pm s6.pz s6.ph := hR.map
                    rwa [hpm'] at this
                  have ekey : ((a * 4294967296 + l : Nat) : Int) = (a : Int) * 4294967296 + (l : Int) := by omega
                  have hlook := hmap.look1 (key_wf ha3 hl)
                  unfold key at hlook
                  rw [ekey] at hlook
                  unfold cm0 at hlook
                  obtain ⟨⟨dv, bD⟩, -, d8, zD⟩ := hR.dcell
                  have d8' : wr.cell? ⟨s.D, 8, none⟩ = some (.map (some b)) := by
                    have : wr.cell? ⟨s6.D, 8, none⟩ = some (.map s6.pm) := d8
                    rw [hpm', HD6.out.1] at this
                    exact this
                  have ck := pendingKey_any a l wr ha3 hl
                  have cg := give_rep hR G a (by rw [hG.cell (by omega)]; exact congrArg (fun x => some (Value.pointer (some ⟨x, 0, none⟩))) HD6.out.2.symm) hG.lt
                  have HKE : Hid (((a * 4294967296 + l : Nat) : Int) = (a : Int) * 4294967296 + (l : Int)) := ekey
                  have HIN : Hid (s6.pd (l, k) = a :: P.drop (i + 1) ∧ a ≤ 3 ∧ s6.pm = some b ∧ k < s6.hn l) := ⟨hdrop, ha3, hpm', hkn6⟩
                  clear ha0 hdrop hkn6 hph hx1 hx5 hpm hpm' ekey bD d8 zD hmap
                  go_wp2_with fail
                  refine ck.mono ?_
                  rintro e w7 ⟨rfl, rfl⟩
                  go_wp2_with fail
                  refine cg.mono ?_
                  rintro e w8 ⟨rfl, hR8, hC8⟩
                  have hG8 := hC8.blk hG (by decide)
                  have c8 : Ch Ea w w8 := hC.trans (hC8.mono fun e he => by unfold Ea; simp [he])
                  obtain ⟨hdrop, ha3', hpm', hkn6⟩ := HIN.out
                  have hmap8 : MapK w8 (some b) s6.pz s6.ph := by
                    have : MapK w8 s6.pm s6.pz s6.ph := hR8.map
                    rwa [hpm'] at this
                  obtain ⟨w9, hdel, hM9, hT9⟩ := hmap8.del (key_wf ha3' hl)
                  unfold key at hdel
                  rw [HKE.out] at hdel
                  obtain ⟨hR9, hC9⟩ := hR8.mkMap hpm' hT9 hM9
                  obtain ⟨-, -, d8, -⟩ := hR8.dcell
                  have d8' : w8.cell? ⟨s.D, 8, none⟩ = some (.map (some b)) := by
                    have : w8.cell? ⟨s6.D, 8, none⟩ = some (.map s6.pm) := d8
                    rw [hpm', HD6.out.1] at this
                    exact this
                  clear hdrop ha3' hpm' hkn6 d8 ck cg hlook hR hG hC hC8
                  go_wp2_with fail
                  go_roundg (P.length - (i + 1))
                  case measure => omega
                  case rel =>
                    obtain ⟨hdrop, ha3', hpm', hkn6⟩ := HIN.out
                    refine ⟨i + 1, { s6 with pd := upd s6.pd (l, k) (P.drop (i + 1)), pz := if s6.ph (key a l) = true then s6.pz - 1 else s6.pz, ph := fun y => if y = key a l then false else s6.ph y }, by omega, by go_num, ?_, hI6.unpend hl hkn6 hdrop, upd_same _ _ _, HPV6.out, ⟨hS6.D, hS6.cb, hS6.L, hS6.hv, hS6.hn, hS6.hc, hS6.th, hS6.sv, hS6.sl⟩, c8.trans (hC9.mono fun e he => by unfold Ea; simp [he]), hC9.blk hG8 (by decide)⟩
                    have := hR9
                    show Rep w9 { s6 with pd := upd (upd s6.pd (l, k) (P.drop (i + 1))) (l, k) P, pz := if s6.ph (key a l) = true then s6.pz - 1 else s6.pz, ph := fun y => if y = key a l then false else s6.ph y }
                    rw [upd_upd]
                    exact this
                · have hiD : decide ((i : Int) < (P.length : Int)) = false := by simp; omega
                  obtain ⟨hv5, hkc5, hkn5⟩ := HV5.out
                  have hv6 : s6.hv l = .slice (some ⟨g, 0, none⟩) (s6.hn l) (s6.hc l) := by rw [hS6.hv, hv5, hS6.hn, hS6.hc]
                  have hkc6 : k < s6.hc l := by rw [hS6.hc]; exact hkc5
                  obtain ⟨-, -, -, -, hg6, z6⟩ := hR.hcell (l := l) (k := k) (g := g) hv6 hkc6
                  have hg6' : wr.cell? ⟨g, k * 4 + 3, none⟩ = some (.slice ap P.length cp) := by
                    have : wr.cell? ⟨g, k * 4 + 3, none⟩ = some (s6.pv (l, k)) := hg6
                    rw [this, HPV6.out]
                  obtain ⟨hR9, hC9⟩ := hR.cutPend (a := ap) (cp := cp) hv6 hkc6 (by show s6.pv (l, k) = .slice ap (upd s6.pd (l, k) P (l, k)).length cp; rw [upd_same]; exact HPV6.out)
                  have c9 : Ch Ea w _ := hC.trans (hC9.mono fun e he => by unfold Ea; simp [he])
                  have hG9 := hC9.blk hG (by decide)
                  have hie : i = P.length := by omega
                  have hnil : s6.pd (l, k) = [] := by rw [HPD.out, hie]; simp
                  have HNIL : Hid (s6.pd (l, k) = []) := hnil
                  have hfin : Inv (N + 1) { { s6 with pd := upd s6.pd (l, k) P } with pv := upd s6.pv (l, k) (.slice ap 0 cp), pd := upd (upd s6.pd (l, k) P) (l, k) [] } := hI6.skip rfl rfl rfl rfl (by
                    show upd (upd s6.pd (l, k) P) (l, k) [] = s6.pd
                    rw [upd_upd]
                    conv => lhs; rw [← hnil]
                    exact upd_self _ _) rfl rfl rfl rfl rfl rfl rfl
                  have hS9 : Same s { { s6 with pd := upd s6.pd (l, k) P } with pv := upd s6.pv (l, k) (.slice ap 0 cp), pd := upd (upd s6.pd (l, k) P) (l, k) [] } LS := by
                    have := hS4.trans (hS5.trans hS6)
                    exact ⟨this.D, this.cb, this.L, this.hv, this.hn, this.hc, this.th, this.sv, this.sl⟩
                  have hPn : ap = none → P = [] ∧ cp = 0 := fun e => by
                    have hrow : LRow wr 63 .u32 (s6.pv (l, k)) (upd s6.pd (l, k) P (l, k)) := hR.pends.row (l, k)
                    rw [HPV6.out, upd_same, e] at hrow
                    rcases hrow with ⟨q0, q1⟩ | ⟨_, _, _, _, q0, _⟩
                    · simp at q0
                      exact ⟨q1, q0.2⟩
                    · simp at q0
                  clear hv5 hkc5 hkn5 hv6 hkc6 hg6 hnil hie hR hC hG HPV6 HPD HP0 HPV
                  cases ap with
                  | none =>
                    obtain ⟨rfl, rfl⟩ := hPn rfl
                    go_wp2_with fail
                    go_roundg (s.hn l - (k + 1))
                    case measure => omega
                    case rel => exact ⟨k + 1, _, by omega, by go_num, hR9, hfin, hS9, c9, hG9⟩
                  | some aa =>
                    clear hPn
                    go_wp2_with fail
                    go_roundg (s.hn l - (k + 1))
                    case measure => omega
                    case rel => exact ⟨k + 1, _, by omega, by go_num, hR9, hfin, hS9, c9, hG9⟩
      · have hkD : decide ((k : Int) < (s.hn l : Int)) = false := by simp; omega
        go_wp2
        go_end0
        exact ⟨rfl, s3, hR, hI3, hS.D, hS.cb, hC⟩
  · have h0I : (((s.ct l : Nat) : Int) == 0) = false := by
      simp only [beq_eq_false_iff_ne]
      omega
    go_wp2
    exact bodyPost_ret (results_none Yba.results18 _ _ _) rfl ⟨rfl, _, hR1, (hI.setL _).mono (by omega), rfl, rfl, c1⟩

#print axioms contest_rep
end Go.Proofs.Ybulkbzhm
