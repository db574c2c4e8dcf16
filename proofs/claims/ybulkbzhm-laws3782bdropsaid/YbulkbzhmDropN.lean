/-
  dropNested.
-/
import Derived.Test.YbulkbzhmDropS
import Derived.Deep.RegionHeld3
namespace Go.Proofs.Ybulkbzhm
set_option linter.unusedSectionVars false
variable [Base]
open Go.RowKit Go.Maps
open Go.WideShapes (add_plain)

/-- What the body must achieve: no panic. -/
def leaveM (fn : Func) (R : Ending → World → Prop) : Exit → Act → World → Prop
  | .normal, a, w | .ret, a, w => LeavesInM Fence.wide 3 Yba.prog fn a.tmps R a.defers .returning w
  | _, _, _ => False

theorem calls_leaveM {f : FuncId} {fn : Func} {c : Code} {args : Array Value} {w : World} {R : Ending → World → Prop} (hf : Yba.prog.funcs[f]? = some fn) (hb : fn.body = some c)
    (h : c.wp Yba.prog (leaveM fn R) { tmps := args ++ Array.replicate (fn.ntmps - args.size) undef, defers := [] } w) : Calls Yba.prog f args w R :=
  (callsIn_wide (n := 3)).1 (callsIn_of_wp_marks hf hb trivial (wpIn_wide.2 (wp_mono h fun e a w hq => by
    cases e with
    | normal => exact hq
    | ret => exact hq
    | _ => exact hq.elim)))

theorem wp_calm {P : Program} {c : Code} {K : Act → World → Prop} {Q : Exit → Act → World → Prop} {a : Act} {w : World} (h : c.wp P (Exit.then K (fun _ _ _ => False)) a w) : c.wp P (Exit.then K Q) a w :=
  wp_mono h fun e a w hq => by
    cases e with
    | normal => exact hq
    | _ => exact hq.elim

theorem Ed.one {e : TypeId} (h : e = 56 ∨ e = 121 ∨ e = 123 ∨ e = 93 ∨ e = 104 ∨ e = 70 ∨ e = 87 ∨ e = 66 ∨ e = 21 ∨ e = 3 ∨ e = 999) : Ed e := by
  rcases h with rfl | rfl | rfl | rfl | rfl | rfl | rfl | rfl | rfl | rfl | rfl <;> exact ⟨by unfold Ea; simp, by decide⟩

theorem Ed.of_El {e : TypeId} (h : El e) : Ed e := by
  rcases h with rfl | rfl | rfl <;> exact Ed.one (by simp)

theorem Ed.of_Et {e : TypeId} (h : Et e) : Ed e := by
  rcases h with rfl | rfl | rfl <;> exact Ed.one (by simp)

theorem Ed.of_Ec {e : TypeId} (h : Ec e) : Ed e := by
  rcases h with h | rfl
  · exact Ed.of_Et h
  · exact Ed.one (by simp)

theorem Ch.putNew {E : TypeId → Prop} {w w1 : World} (h : Ch E w w1) {l : Nat} (hg : w.heap.size ≤ l) (o : Obj) : Ch E w (w1.putObj l o) :=
  ⟨h.os, h.tape, h.output, by simpa [World.putObj] using h.size, fun g o2 ho hn => (World.putObj_heap_other (by have := (Array.getElem?_eq_some_iff.1 ho).1; omega)).trans (h.keep g o2 ho hn), fun g o2 hb ho => (World.putObj_heap_other (by have := (Array.getElem?_eq_some_iff.1 ho).1; omega)).trans (h.low g o2 hb ho)⟩

theorem DropRel.mk' {N : Nat} {s1 s' : St} {t l k m z : Nat} {K : List Nat} {f : Int → Bool} (hI1 : Inv N s1) (hl : l ≤ 2) (hk : k < s1.hn l) (hth : s1.th (l, k) = t) (hm : s1.hn l = m + 1) (e1 : s'.hn = upd s1.hn l (s1.hn l - 1)) (e2 : s'.th = swap s1.th (l, k) (l, s1.hn l - 1) 0)
    (e3 : (liveK (s'.xk t)).length = (liveK K).length) (hlive : (liveK K).length + (s1.sl (l, k)).length = (liveK (s1.xk t)).length) (e4 : s'.pz = z) (hz : z + (s1.pd (l, k)).length = s1.pz) (e5 : s'.ph = f) (hf : ∀ a, a ∈ s1.pd (l, k) → f (key a l) = false) (e6 : s'.ct l ≠ 0 ↔ s1.ct l ≠ 0 ∧ m ≠ 0) : DropRel s1 s' t l k := by
  refine ⟨fun l' u _ => gone_th hI1 hl hk hth s'.hn s'.th e1 e2 l' u, by omega, by omega, fun a ha => by rw [e5]; exact hf a ha, ?_⟩
  rw [e6, e1, upd_same, hm]
  simp

theorem wrap_sub1 (n : Nat) (h1 : 1 ≤ n) (h2 : n ≤ 100000) : IntKind.i64.wrap ((n : Int) - 1) = (n : Int) - 1 := by
  rw [IntKind.wrap_i64]
  omega

theorem Inv.ctWrap {N : Nat} {s : St} (h : Inv N s) (hN : N ≤ 5000) {l : Nat} (hl : l ≤ 2) (h0 : s.ct l ≠ 0) : IntKind.i64.wrap ((s.ct l : Int) - 1) = (s.ct l : Int) - 1 := by
  have h1 := (h.cct l hl h0).1
  have h2 := h.zq 3 (by omega)
  exact wrap_sub1 _ (by omega) (by omega)

theorem enter34 (args : Array Value) (w : World) : (callFunc 34 args).run Yba.prog w = .ok (.enter 34 args) w := by simp [go_sem]

theorem take_last (L : List Nat) (i : Nat) (hi : i < L.length) : L.take (L.length - i) = L.take (L.length - (i + 1)) ++ [L.getD (L.length - 1 - i) 0] := by
  have e : L.length - i = (L.length - (i + 1)) + 1 := by omega
  rw [e, List.take_add_one]
  have e2 : L.length - (i + 1) = L.length - 1 - i := by omega
  rw [e2]
  have hlt : L.length - 1 - i < L.length := by omega
  simp [List.getD, List.getElem?_eq_getElem hlt]

set_option maxRecDepth 100000 in
/-- slices.Backward. -/
theorem backward24 (a : Option Addr) (n c : Nat) (w : World) : Calls Yba.prog 24 #[.slice a n c] w fun e w' => e = .returned (.func (.func 34) #[] #[.pointer (some ⟨w.heap.size, 0, none⟩)]) ∧ w' = w.alloc (.cells #[.slice a n c] 64) := by
  go_enter Yba.func24, Yba.ntmps24
  go_wp2
  go_ret
  exact ⟨rfl, rfl⟩

attribute [local go_sem] Oper.semAt_some

set_option maxRecDepth 100000 in
set_option maxHeartbeats 40000000 in
theorem dropNested_rep {w : World} {s : St} {N : Nat} (h : Rep w s) (hI : Inv N s) (hN : N ≤ 5000) (t l : Nat) (ht : t ≤ 2) (hl : l ≤ 2) :
    Calls Yba.prog 11 #[.pointer (some ⟨s.D, 0, none⟩), .int .i64 (t : Int), .int .i64 (l : Int)] w fun e w' => e = .returned (.tuple #[]) ∧ ∃ s' LS, Rep w' s' ∧ Inv N s' ∧ s'.D = s.D ∧ s'.cb = s.cb ∧ s'.L = some LS ∧ s'.T = s.T ∧ Ch Ed w w' ∧
      (((∀ k, k < s.hn l → s.th (l, k) ≠ t) ∧ s' = { s with L := some LS }) ∨ ∃ k, k < s.hn l ∧ s.th (l, k) = t ∧ DropRel s s' t l k) := by
  have hA := h.alloc (.cells #[.int .i64 (t : Int)] 3)
  have bA : Blk (w.alloc (.cells #[.int .i64 (t : Int)] 3)) w.heap.size 3 1 (fun _ => .int .i64 (t : Int)) := Blk.new w _ 3 h.base rfl fun j hj => by
    have : j = 0 := by omega
    subst this
    rfl
  have hBo : Apart s.qv w.heap.size := fun i hi => by
    obtain ⟨sz, c, hb⟩ := (LRow.loc 3 .i64).typed (h.locks.row i) hi
    exact absurd hb.lt (Nat.lt_irrefl _)
  have cA : Ch Ed w (w.alloc (.cells #[.int .i64 (t : Int)] 3)) := (Ch.refl _ w).alloc _
  have cl := get19_rep hA l hl
  refine calls_leaveM Yba.func11 rfl ?_
  simp only [Yba.ntmps11, List.size_toArray, List.length_cons, List.length_nil, Nat.reduceAdd, Nat.reduceSub, Array.replicate_succ, Array.replicate_zero, List.push_toArray, List.append_toArray, List.nil_append, List.cons_append]
  go_wp2_with fail
  refine cl.mono ?_
  rintro e w1 ⟨LS, rfl, hLx, hR1, hC1⟩
  have b1 : Blk w1 w.heap.size 3 1 (fun _ => .int .i64 (t : Int)) := hC1.blk bA (by decide)
  have c1 : Ch Ed w w1 := cA.trans (hC1.mono fun e he => Ed.of_El he)
  have hI1 := hI.setL (some LS)
  clear cl hA bA cA hC1
  generalize w.heap.size = B at b1 hBo ⊢
  obtain ⟨s1, hs1⟩ : ∃ s1 : St, s1 = { s with L := some LS } := ⟨_, rfl⟩
  rw [← hs1] at hR1 hI1
  have HS1 : Hid (s1 = { s with L := some LS }) := hs1
  have hD1 : s1.D = s.D := by rw [hs1]
  have hL1 : s1.L = some LS := by rw [hs1]
  have hhn : s1.hn = s.hn := by rw [hs1]
  have hth : s1.th = s.th := by rw [hs1]
  have hBo1 : Apart s1.qv B := by rw [hs1]; exact hBo
  clear hs1
  obtain ⟨lc, b0, q1, q2, z1⟩ := hR1.ld hL1 hl
  obtain ⟨⟨ah, hhv⟩, hnc, hcm⟩ := hR1.holds.val l
  rw [hhv] at q1
  have cx := indexFunc_rep hR1 l t B (by have := hI1.zh l hl; omega) b1 ah hhv
  have HHV : Hid (s1.hv l = .slice ah (s1.hn l) (s1.hc l)) := hhv
  have HF : Hid (s1.hn = s.hn ∧ s1.th = s.th ∧ s1.D = s.D ∧ s1.L = some LS ∧ Apart s1.qv B) := ⟨hhn, hth, hD1, hL1, hBo1⟩
  clear hhv hhn hth hL1 hBo1 hBo
  go_wp2_with fail
  refine cx.mono ?_
  rintro e w2 ⟨hR2, hC2, hway⟩
  have b2 := hC2.blk b1 id
  have c2 : Ch Ed w w2 := c1.trans (hC2.mono fun e he => he.elim)
  clear cx hR1 hC2 b1 c1 q1 q2 z1 b0
  rcases hway with ⟨rfl, hno⟩ | ⟨k, hk, hthk, rfl⟩
  · go_wp2
    exact ⟨_, results_none Yba.results11 _ _ _, rfl, s1, LS, hR2, hI1, HF.out.2.2.1, by rw [HS1.out], HF.out.2.2.2.1, by rw [HS1.out], c2, .inl ⟨by rw [← HF.out.1, ← HF.out.2.1]; exact hno, HS1.out⟩⟩
  · have hkD : decide ((k : Int) < 0) = false := by simp
    have hkc : k < s1.hc l := by omega
    obtain ⟨g, cg, hg1, hg2, hg3, hg4, hg5, hg6, hg7⟩ := hR2.holds.at hkc
    have hah : ah = some ⟨g, 0, none⟩ := by
      rw [HHV.out] at hg1
      simpa using hg1
    subst hah
    obtain ⟨lc, b0, q1, q2, z1⟩ := hR2.ld HF.out.2.2.2.1 hl
    rw [HHV.out] at q1
    have qB := b2.cell (i := 0) (by omega)
    obtain ⟨TS, hTS⟩ := hR2.made hI1 hl hk
    have cl3 := get20_made hR2.drew hTS t ht
    rw [hD1] at cl3
    have cl3b := get20_made (hR2.drew.alloc (.cells #[.pointer none] 58)) hTS t ht
    rw [hD1] at cl3b
    have HTS : Hid (s1.T = some TS) := hTS
    clear hTS
    have hkI : (k : Int) < (s1.hn l : Int) := by omega
    have HK : Hid (k < s1.hn l ∧ s1.th (l, k) = t ∧ k < s1.hc l) := ⟨hk, hthk, hkc⟩
    clear hthk hg1 hnc hcm
    have l1 := b0.lt
    have l2 := hg2.lt
    have l3 := b2.lt
    go_upto_region 4 with fail
    go_cut [8, 9] from 32 to 44 (fun v8 v9 wx => ∃ X, v8 = .pointer (some ⟨X, 0, none⟩) ∧ v9 = .int .i64 (s1.pl (l, k) : Int) ∧ Rep wx s1 ∧ Blk wx X 58 1 (fun _ => .pointer (some ⟨TS, t * 8, none⟩)) ∧ Blk wx B 3 1 (fun _ => .int .i64 (t : Int)) ∧ Ch Ed w wx)
    case first =>
      clear h hI hI1 HF HS1 HHV HK hg3 hg5 hg6 hg7 q2 z1 hk hkc hD1 HTS
      refine wp_calm ?_
      have bN : ∀ m, Blk ((w2.drewN m).alloc (.cells #[.pointer none] 58)) w2.heap.size 58 1 (fun _ => .pointer none) := fun m => Blk.new (w2.drewN m) #[.pointer none] 58 hR2.base rfl (fun j hj => by
        have : j = 0 := by omega
        subst this
        rfl)
      have hd1 : ∀ m, ((w2.drewN m).alloc (.cells #[.pointer none] 58)).cell? ⟨w2.heap.size, 0, none⟩ = some (.pointer none) := fun m => (bN m).cell (by omega)
      have hd2 : ∀ m, ((w2.drewN m).alloc (.cells #[.pointer none] 58)).frozen? ⟨w2.heap.size, 0, none⟩ = false := fun m => (bN m).frozen 0
      have fin : ∀ w5, Rep w5 s1 → Blk w5 w2.heap.size 58 1 (fun _ => .pointer none) → Blk w5 B 3 1 (fun _ => .int .i64 (t : Int)) → Ch Ed w w5 →
          Rep (w5.setCell ⟨w2.heap.size, 0, none⟩ (.pointer (some ⟨TS, t * 8, none⟩))) s1 ∧ Blk (w5.setCell ⟨w2.heap.size, 0, none⟩ (.pointer (some ⟨TS, t * 8, none⟩))) w2.heap.size 58 1 (fun _ => .pointer (some ⟨TS, t * 8, none⟩)) ∧ Blk (w5.setCell ⟨w2.heap.size, 0, none⟩ (.pointer (some ⟨TS, t * 8, none⟩))) B 3 1 (fun _ => .int .i64 (t : Int)) ∧ Ch Ed w (w5.setCell ⟨w2.heap.size, 0, none⟩ (.pointer (some ⟨TS, t * 8, none⟩))) := fun w5 r5 x5 b5 c5 => by
        have r6 := (Ch.refl (fun e => e = 58) w5).setCell x5 rfl 0 (.pointer (some ⟨TS, t * 8, none⟩))
        refine ⟨r5.ch r6 (fun e he => by subst he; decide), (x5.set 0 _).congr (fun j hj => by rw [if_pos (by omega)]), r6.blk b5 (by decide), c5.setNew ?_ 0 _⟩
        exact c2.size
      have HFIN : Hid _ := fin
      have HBN : Hid _ := bN
      have HBN0 : Hid (Blk (w2.alloc (.cells #[.pointer none] 58)) w2.heap.size 58 1 (fun _ => .pointer none)) := Blk.new w2 #[.pointer none] 58 hR2.base rfl (fun j hj => by
        have : j = 0 := by omega
        subst this
        rfl)
      have HR2 : Hid (Rep w2 s1) := hR2
      clear hR2 bN fin
      have n1 := World.new_ne w2 ⟨LS, l * 4, none⟩ q1
      have n2 := World.new_ne w2 ⟨g, k * 4 + 1, none⟩ hg4
      have n3 := World.new_ne w2 ⟨B, 0, none⟩ qB
      go_region_held3 (fun w' => w'.cell? ⟨LS, l * 4, none⟩ = some (.slice (some ⟨g, 0, none⟩) (s1.hn l) (s1.hc l)) ∧ w'.cell? ⟨g, k * 4 + 1, none⟩ = some (.int .i64 (s1.pl (l, k) : Int)) ∧ w'.cell? ⟨B, 0, none⟩ = some (.int .i64 (t : Int))) (go_keep) (first | (go_at_call 20; refine cl3.mono ?_; rintro e w3 ⟨rfl, m3, rfl⟩) | (go_at_call 20; refine cl3b.mono ?_; rintro e w3 ⟨rfl, m3, rfl⟩))
      · go_wp2_with fail
        go_meet
        exact ⟨_, rfl, rfl, HFIN.out _ ((HR2.out.drewN _).alloc _) (HBN.out _) ((b2.drewN _).alloc _) ((c2.drewN _).alloc _)⟩
      · go_wp2_with fail
        go_meet
        exact ⟨_, rfl, rfl, HFIN.out _ ((HR2.out.alloc _).drewN _) (HBN0.out.drewN _) ((b2.alloc _).drewN _) ((c2.alloc _).drewN _)⟩
    case rest =>
      clear cl3 cl3b l1 l2 l3 hg2 hg3 hg4 hg5 hg6 hg7 b0 q1 q2 z1 qB hR2 b2 c2 hkc hk
      obtain ⟨X, rfl, rfl, hR3, bX, bB, c3⟩ := hcut
      obtain ⟨hk, hthk, hkc⟩ := HK.out
      have cr := locksRemove_call hR3 hI1 hN HTS.out ht hl hk hthk
      have hpp := hI1.placed hl hk hthk
      obtain ⟨MV, hMV⟩ : ∃ MV, MV = (s1.ql t).getD ((s1.ql t).length - 1) 0 := ⟨_, rfl⟩
      rw [← hMV] at cr hpp
      obtain ⟨hp1, hmv2, k2, hk2, hth2, hp2⟩ := hpp
      have qX := bX.cell (i := 0) (by omega)
      have HP : Hid ((MV = l → Placed s1 t l k s1.pl) ∧ k2 < s1.hn MV ∧ s1.th (MV, k2) = t ∧ Placed s1 t l k (upd s1.pl (MV, k2) (s1.pl (l, k)))) := ⟨hp1, hk2, hth2, hp2⟩
      clear hp1 hk2 hth2 hp2 hk hthk hkc hMV
      go_wp2_with fail
      refine cr.mono ?_
      rintro e w4 ⟨rfl, v4, hR4, hC4, hA4⟩
      obtain ⟨hap4, hb4⟩ := hA4 B HF.out.2.2.2.2
      have bB4 := hb4 1 _ bB
      have bX4 := hC4.blk bX (by decide)
      have c4 : Ch Ed w w4 := c3.trans (hC4.mono fun e he => Ed.one (by rcases he with rfl | rfl <;> simp))
      have HAP : Hid (Apart (upd s1.qv t v4) B) := hap4
      clear cr hA4 hb4 hC4 c3 bB bX hR3 qX hap4
      obtain ⟨s2, hs2⟩ : ∃ s2 : St, s2 = { s1 with qv := upd s1.qv t v4, ql := upd s1.ql t (cutAt (s1.ql t) (s1.pl (l, k))) } := ⟨_, rfl⟩
      rw [← hs2] at hR4
      have HS2 : Hid (s2 = { s1 with qv := upd s1.qv t v4, ql := upd s1.ql t (cutAt (s1.ql t) (s1.pl (l, k))) }) := hs2
      have hD2 : s2.D = s.D := by rw [hs2]; exact hD1
      have hL2 : s2.L = some LS := by rw [hs2]; exact HF.out.2.2.2.1
      clear hs2
      go_upto_if 52 with fail
      go_cut [] from 52 to 59 (fun wx => ∃ pl', Rep wx { s2 with pl := pl' } ∧ Placed s1 t l k pl' ∧ Blk wx B 3 1 (fun _ => .int .i64 (t : Int)) ∧ Blk wx X 58 1 (fun _ => .pointer (some ⟨TS, t * 8, none⟩)) ∧ Ch Ed w wx)
      case first =>
        by_cases hm : MV = l
        · have HM : Hid (MV = l) := hm
          have hmI : ((MV : Int) == (l : Int)) = true := by simp [hm]
          clear hm
          go_wp2_with fail
          go_meet
          exact ⟨s1.pl, by rw [HS2.out] at hR4 ⊢; exact hR4, HP.out.1 HM.out, bB4, bX4, c4⟩
        · have hmI : ((MV : Int) == (l : Int)) = false := by
            simp only [beq_eq_false_iff_ne]
            omega
          have ch := hold_made hR4 hL2 t MV hmv2
          rw [hD2] at ch
          have qB4 := bB4.cell (i := 0) (by omega)
          clear hm
          go_wp2_with fail
          refine ch.mono ?_
          rintro e w5 ⟨v, rfl, hH, m5, rfl⟩
          obtain ⟨-, hk2, hth2, hp2⟩ := HP.out
          have hhn2 : s2.hn = s1.hn := by rw [HS2.out]
          have hth2' : s2.th = s1.th := by rw [HS2.out]
          have hpl2 : s2.pl = s1.pl := by rw [HS2.out]
          rcases hH with ⟨-, hno⟩ | ⟨k', g', hk', hth', hhv', rfl⟩
          · exact absurd (by rw [hth2']; exact hth2) (hno k2 (by rw [hhn2]; exact hk2))
          · have ek : k2 = k' := hI1.thd MV k2 k' hmv2 hk2 (by rw [← hhn2]; exact hk') (hth2.trans (by rw [← hth2']; exact hth'.symm))
            subst ek
            have hkc' : k2 < s2.hc MV := Nat.lt_of_lt_of_le hk' (hR4.holds.val MV).2.1
            obtain ⟨-, -, pc1, -, -, zc⟩ := hR4.hcell hhv' hkc'
            obtain ⟨r1, r2⟩ := (hR4.drewN m5).holds.setPl hhv' k2 (s1.pl (l, k))
            have hR5 := (hR4.drewN m5).mkHold r2 r1
            have bB5 := r2.blk (bB4.drewN m5) (by decide)
            have bX5 := r2.blk (bX4.drewN m5) (by decide)
            have c5 : Ch Ed w _ := (c4.drewN m5).trans (r2.mono fun e he => Ed.one (by simp [he]))
            rw [hpl2] at hR5
            clear hk2 hth2 hp2 hhn2 hth2' hpl2 hk' hth' hhv' hkc' r1 r2 ch
            go_wp2_with fail
            go_meet
            exact ⟨upd s1.pl (MV, k2) (s1.pl (l, k)), hR5, HP.out.2.2.2, bB5, bX5, c5⟩
      case rest =>
        obtain ⟨pl', hR5, hpl, bB5, bX5, c5⟩ := hcut
        clear hR4 bB4 bX4 c4 hL2 hD2
        have hRs : Rep wc (Rst s1 t (upd s1.qv t v4) (upd s1.ql t (cutAt (s1.ql t) (s1.pl (l, k)))) pl' s1.xv (s1.xk t) s1.pz s1.ph) := by
          rw [Rst.start]
          rw [HS2.out] at hR5
          exact hR5
        have hVs : Inv N (Vst s1 (l, k) t s1.xv (s1.xk t) (s1.sl (l, k)) (s1.pd (l, k)) s1.pz s1.ph) := by
          rw [Vst.start]
          exact hI1
        have HPL : Hid (Placed s1 t l k pl' ∧ (upd s1.qv t v4) 5 = s1.qv 5) := ⟨hpl, upd_other _ _ (by omega)⟩
        obtain ⟨hk, hthk, hkc⟩ := HK.out
        have hLD : ∀ W : World, ∀ qv' ql' xv' K z f, Rep W (Rst s1 t qv' ql' pl' xv' K z f) → W.cell? ⟨LS, l * 4, none⟩ = some (.slice (some ⟨g, 0, none⟩) (s1.hn l) (s1.hc l)) ∧ W.cell? ⟨g, k * 4 + 2, none⟩ = some (s1.sv (l, k)) ∧ W.cell? ⟨g, k * 4 + 3, none⟩ = some (s1.pv (l, k)) := fun W qv' ql' xv' K z f hW => by
          obtain ⟨lc, -, q1, -, -⟩ := hW.ld (LS := LS) HF.out.2.2.2.1 hl
          obtain ⟨-, -, -, p2, p3, -⟩ := hW.hcell (l := l) (k := k) (g := g) HHV.out hkc
          exact ⟨q1.trans (congrArg some HHV.out), p2, p3⟩
        obtain ⟨q1, q2, q3⟩ := hLD _ _ _ _ _ _ _ hRs
        obtain ⟨as1, cs1, hsv⟩ := (hRs.slots.row (l, k)).val
        obtain ⟨ap1, cp1, hpv⟩ := (hRs.pends.row (l, k)).val
        have hsv' : s1.sv (l, k) = .slice as1 (s1.sl (l, k)).length cs1 := hsv
        have hpv' : s1.pv (l, k) = .slice ap1 (s1.pd (l, k)).length cp1 := hpv
        rw [hsv'] at q2
        rw [hpv'] at q3
        have HSV : Hid (s1.sv (l, k) = .slice as1 (s1.sl (l, k)).length cs1) := hsv'
        have HPV : Hid (s1.pv (l, k) = .slice ap1 (s1.pd (l, k)).length cp1) := hpv'
        have HLD : Hid _ := hLD
        clear hsv hpv hsv' hpv' hLD hk hthk hkc hR5 hpl
        go_upto_region 8 with fail
        go_quiet (fail)
        go_wp2_with fail
        refine (backward24 _ _ _ _).mono ?_
        rintro e w6 ⟨rfl, rfl⟩
        go_wp2_with fail
        have hR6 := (hRs.drewN nq).alloc (.cells #[.slice as1 (s1.sl (l, k)).length cs1] 64)
        have bB6 := (bB5.drewN nq).alloc (.cells #[.slice as1 (s1.sl (l, k)).length cs1] 64)
        have bX6 := (bX5.drewN nq).alloc (.cells #[.slice as1 (s1.sl (l, k)).length cs1] 64)
        have c6 := (c5.drewN nq).alloc (.cells #[.slice as1 (s1.sl (l, k)).length cs1] 64)
        have bS6 : Blk ((wc.drewN nq).alloc (.cells #[.slice as1 (s1.sl (l, k)).length cs1] 64)) wc.heap.size 64 1 (fun _ => .slice as1 (s1.sl (l, k)).length cs1) := Blk.new (wc.drewN nq) _ 64 hRs.base rfl (fun j hj => by
          have : j = 0 := by omega
          subst this
          rfl)
        generalize (wc.drewN nq).alloc (.cells #[.slice as1 (s1.sl (l, k)).length cs1] 64) = w6 at hR6 bB6 bX6 c6 bS6 ⊢
        generalize wc.heap.size = BX at bS6 ⊢
        clear hRs bB5 bX5 c5 q1 q2 q3
        have hzL : (s1.sl (l, k)).length ≤ 5000 := by have := hI1.zs l k hl; omega
        have HL0 : Hid (∀ W qv' ql' xv' K z f, Rep W (Rst s1 t qv' ql' pl' xv' K z f) → ∀ i, i < (s1.sl (l, k)).length → ∃ g, as1 = some ⟨g, 0, none⟩ ∧ W.cell? ⟨g, i, none⟩ = some (.int .i32 (((s1.sl (l, k)).getD i 0 : Nat) : Int))) := fun W qv' ql' xv' K z f hW i hi => by
          obtain ⟨g2, cap2, sz2, cc2, hx1, -, -, -, -, hx5⟩ := (hW.slots.row (l, k)).at (i := i) hi
          have hx1' : s1.sv (l, k) = .slice (some ⟨g2, 0, none⟩) (s1.sl (l, k)).length cap2 := hx1
          rw [HSV.out] at hx1'
          simp at hx1'
          exact ⟨g2, hx1'.1, hx5⟩
        refine range_det (gf := 34) (lb := #[.pointer (some ⟨BX, 0, none⟩)]) rfl enter34 (s1.sl (l, k)).length (fun i => #[.int .i64 (((s1.sl (l, k)).length - 1 - i : Nat) : Int), .int .i32 (((s1.sl (l, k)).getD ((s1.sl (l, k)).length - 1 - i) 0 : Nat) : Int)]) (fun _ => rfl)
          (fun i W => ∃ xv' K, Rep W (Rst s1 t (upd s1.qv t v4) (upd s1.ql t (cutAt (s1.ql t) (s1.pl (l, k)))) pl' xv' K s1.pz s1.ph) ∧ Inv N (Vst s1 (l, k) t xv' K ((s1.sl (l, k)).take ((s1.sl (l, k)).length - i)) (s1.pd (l, k)) s1.pz s1.ph) ∧ (liveK K).length + i = (liveK (s1.xk t)).length ∧ Blk W B 3 1 (fun _ => .int .i64 (t : Int)) ∧ Blk W X 58 1 (fun _ => .pointer (some ⟨TS, t * 8, none⟩)) ∧ Blk W BX 64 1 (fun _ => .slice as1 (s1.sl (l, k)).length cs1) ∧ Ch Ed w W)
          ?_ ?_ ?_ ?_ ?_ ?_
        · rintro W o ⟨xv', K, r1, r2, r3, r4, r5, r6, r7⟩
          exact ⟨xv', K, r1.alloc _, r2, r3, r4.alloc _, r5.alloc _, r6.alloc _, r7.alloc _⟩
        · rintro i W l' o o' hle hl' hko ⟨xv', K, r1, r2, r3, r4, r5, r6, r7⟩
          have hlow : Base.n ≤ l' := Nat.le_trans hR6.base hle
          have hp := Ch.put hlow hl' hko o'
          refine ⟨xv', K, r1.put hlow hl' hko o', r2, r3, hp.blk r4 (by decide), hp.blk r5 (by decide), hp.blk r6 (by decide), r7.putNew (Nat.le_trans c6.size hle) o'⟩
        · intro l' J W hJ hY h0
          exact backward_it BX (s1.sl (l, k)) as1 cs1 (by omega) l' J W (fun i W hj => by
            obtain ⟨xv', K, r1, r2, r3, r4, r5, r6, r7⟩ := hJ i W hj
            exact ⟨r6.cell (by omega), HL0.out _ _ _ _ _ _ _ r1⟩) hY h0
        · intro l' i W hi
          have etake := take_last (s1.sl (l, k)) i hi
          generalize (s1.sl (l, k)).getD ((s1.sl (l, k)).length - 1 - i) 0 = n at etake
          have HTK : Hid ((s1.sl (l, k)).take ((s1.sl (l, k)).length - i) = (s1.sl (l, k)).take ((s1.sl (l, k)).length - (i + 1)) ++ [n]) := etake
          clear etake hR6 bB6 bX6 c6 bS6 hVs
          gi_wp2
          refine ⟨trivial, ?_⟩
          rintro W2 ⟨xv', K, r1, r2, r3, r4, r5, r6, r7⟩
          rw [HTK.out] at r2
          have cl := drop_step r1 r2 hN HTS.out ht hl HK.out.1 HK.out.2.1
          have qX := r5.cell (i := 0) (by omega)
          gi_wp2
          refine ⟨trivial, rfl, (CallsIn.inRound l' ((callsIn_wide (n := 0)).2 cl)).mono ?_⟩
          rintro e W3 ⟨rfl, xv2, K2, p1, p2, p3, p4⟩
          clear cl
          gi_wp2
          exact ⟨fun j o h1 h2 => p4.keep j o h1 (by rw [h2]; unfold Et; decide), xv2, K2, p1, p2, by omega, p4.blk r4 (by unfold Et; decide), p4.blk r5 (by unfold Et; decide), p4.blk r6 (by unfold Et; decide), r7.trans (p4.mono fun e he => Ed.of_Et he)⟩
        · exact ⟨s1.xv, s1.xk t, hR6, by simpa using hVs, by omega, bB6, bX6, bS6, c6⟩
        · rintro D W hD ⟨xv', K, r1, r2, r3, r4, r5, r6, r7⟩ hDef
          have HDL : Hid (Base.n ≤ D ∧ w.heap.size ≤ D) := ⟨Nat.le_trans hR6.base hD, Nat.le_trans c6.size hD⟩
          clear hR6 bB6 bX6 c6 bS6 hVs r6 hD
          have hnil : (s1.sl (l, k)).take ((s1.sl (l, k)).length - (s1.sl (l, k)).length) = [] := by simp
          rw [hnil] at r2
          have HLIVE : Hid ((liveK K).length + (s1.sl (l, k)).length = (liveK (s1.xk t)).length) := r3
          have hzP : ((s1.pd (l, k)).length : Int) ≤ 5000 := by have := hI1.zp l k hl; omega
          clear r3 hnil
          go_wp2_with fail
          go_loopg [85] (s1.pd (l, k)).length (fun gk v wr => ∃ (i z : Nat) (f : Int → Bool), gk + i = (s1.pd (l, k)).length ∧ v = .int .i64 (i : Int) ∧ Rep wr (Rst s1 t (upd s1.qv t v4) (upd s1.ql t (cutAt (s1.ql t) (s1.pl (l, k)))) pl' xv' K z f) ∧ Inv N (Vst s1 (l, k) t xv' K [] ((s1.pd (l, k)).drop i) z f) ∧ z + i = s1.pz ∧ (∀ a, a ∈ (s1.pd (l, k)).take i → f (key a l) = false) ∧ Blk wr B 3 1 (fun _ => .int .i64 (t : Int)) ∧ Ch Ed w wr ∧ wr.heap[D]? = some (.deferred (some [])))
          case atStart => exact ⟨0, s1.pz, s1.ph, by omega, rfl, r1, r2, by omega, fun a ha => by simp at ha, r4, r7, hDef⟩
          case round =>
            clear r1 r2 r4 r5 r7 hDef
            obtain ⟨i, z, f, hgi, rfl, hR, hV, hz, hf, bB, hC, hDef⟩ := hrel
            have HZ : Hid (z + i = s1.pz ∧ ∀ a, a ∈ (s1.pd (l, k)).take i → f (key a l) = false) := ⟨hz, hf⟩
            clear hz hf
            by_cases hi : i < (s1.pd (l, k)).length
            · have hiI : (i : Int) < ((s1.pd (l, k)).length : Int) := by omega
              have hiN : ((s1.pd (l, k)).getD i 0) = (s1.pd (l, k))[i] := by simp [List.getD, hi]
              have hdrop : (s1.pd (l, k)).drop i = (s1.pd (l, k)).getD i 0 :: (s1.pd (l, k)).drop (i + 1) := by rw [List.drop_eq_getElem_cons hi, hiN]
              have htake : (s1.pd (l, k)).take (i + 1) = (s1.pd (l, k)).take i ++ [(s1.pd (l, k)).getD i 0] := by rw [List.take_add_one, List.getElem?_eq_getElem hi, hiN]; rfl
              obtain ⟨gs, capx, szs, cs, hx1, -, -, -, -, hx5⟩ := (hR.pends.row (l, k)).at (i := i) hi
              have hx1' : s1.pv (l, k) = .slice (some ⟨gs, 0, none⟩) (s1.pd (l, k)).length capx := hx1
              rw [HPV.out] at hx1'
              simp at hx1'
              obtain ⟨rfl, rfl⟩ := hx1'
              have hx5' : wr.cell? ⟨gs, i, none⟩ = some (.int .u32 (((s1.pd (l, k)).getD i 0 : Nat) : Int)) := hx5
              generalize (s1.pd (l, k)).getD i 0 = a at hx5' hdrop htake
              rw [hdrop] at hV
              obtain ⟨ha3, hpos, b, hpm, w8, hdel, hR8, hV8, hC8⟩ := del_step hR.drew hV hl HK.out.1
              have d8 : wr.cell? ⟨s.D, 8, none⟩ = some (.map (some b)) := by
                have : wr.cell? ⟨s1.D, 8, none⟩ = some (.map s1.pm) := hR.dcell.2.2.1
                rw [hpm, hD1] at this
                exact this
              have ck := pendingKey_any a l wr.drew ha3 hl
              have hpos1 : z - 1 + 1 = z := by omega
              have HT : Hid ((s1.pd (l, k)).take (i + 1) = (s1.pd (l, k)).take i ++ [a] ∧ z - 1 + 1 = z) := ⟨htake, hpos1⟩
              have HBC : Hid (Blk wr B 3 1 (fun _ => .int .i64 (t : Int)) ∧ Ch Ed w wr ∧ wr.heap[D]? = some (.deferred (some []))) := ⟨bB, hC, hDef⟩
              clear hx1 hx5 hiN hdrop htake hpm hpos hpos1 hR hV bB hC hDef
              go_upto_region 15 with fail
              go_region_with (go_at_call 13; refine ck.mono ?_; rintro e w7 ⟨rfl, rfl⟩)
              all_goals
                go_wp2_with fail
                go_roundg ((s1.pd (l, k)).length - (i + 1))
                case measure => omega
                case rel =>
                  obtain ⟨bB, hC, hDef⟩ := HBC.out
                  obtain ⟨htake, hpos1⟩ := HT.out
                  obtain ⟨hz, hf⟩ := HZ.out
                  refine ⟨i + 1, z - 1, _, by omega, by go_num, hR8, hV8, by omega, fun a' ha' => ?_, hC8.blk bB.drew (by decide), hC.drew.trans (hC8.mono fun e he => Ed.one (by simp [he])), hC8.keep D _ hDef (by decide)⟩
                  rw [htake] at ha'
                  by_cases e : key a' l = key a l
                  · simp [e]
                  · rw [if_neg e]
                    rcases List.mem_append.1 ha' with h | h
                    · exact hf a' h
                    · simp at h
                      exact absurd (by rw [h]) e
            · have : i = (s1.pd (l, k)).length := by omega
              subst this
              have hdn : (s1.pd (l, k)).drop (s1.pd (l, k)).length = [] := by simp
              have htn : (s1.pd (l, k)).take (s1.pd (l, k)).length = s1.pd (l, k) := by simp
              rw [hdn] at hV
              have HZ2 : Hid (z + (s1.pd (l, k)).length = s1.pz ∧ ∀ a, a ∈ s1.pd (l, k) → f (key a l) = false) := ⟨HZ.out.1, by rw [← htn]; exact HZ.out.2⟩
              obtain ⟨m, hm⟩ : ∃ m, s1.hn l = m + 1 := ⟨s1.hn l - 1, by have := HK.out.1; omega⟩
              have HM : Hid (s1.hn l = m + 1) := hm
              obtain ⟨q1, -, -⟩ := HLD.out _ _ _ _ _ _ _ hR
              rw [hm] at q1
              have hkI2 : (k : Int) < (m : Int) + 1 := by have := HK.out.1; omega
              have hmc : m < s1.hc l := by
                have : s1.hn l ≤ s1.hc l := (hR.holds.val l).2.1
                omega
              have hmS : m ≤ 5000 := by have := hI1.zh l hl; omega
              obtain ⟨⟨cg, bg⟩, p0, p1, p2, p3, zg⟩ := hR.hcell (l := l) (k := m) (g := g) HHV.out hmc
              obtain ⟨a3, c3, hsv3⟩ := (hR.slots.row (l, m)).val
              obtain ⟨a4, c4, hpv4⟩ := (hR.pends.row (l, m)).val
              have p0' : wr.cell? ⟨g, m * 4, none⟩ = some (.int .i64 (s1.th (l, m) : Int)) := p0
              have p1' : wr.cell? ⟨g, m * 4 + 1, none⟩ = some (.int .i64 (pl' (l, m) : Int)) := p1
              have p2' : wr.cell? ⟨g, m * 4 + 2, none⟩ = some (.slice a3 (s1.sl (l, m)).length c3) := p2.trans (congrArg some hsv3)
              have p3' : wr.cell? ⟨g, m * 4 + 3, none⟩ = some (.slice a4 (s1.pd (l, m)).length c4) := p3.trans (congrArg some hpv4)
              have hRk := hR.hcell (l := l) (k := k) (g := g) HHV.out HK.out.2.2
              obtain ⟨-, k0, k1, k2', k3, -⟩ := hRk
              obtain ⟨h1, r1⟩ := hR.holds.setTh (l := l) (g := g) HHV.out k (s1.th (l, m))
              obtain ⟨h2, r2⟩ := h1.setPl HHV.out k (pl' (l, m))
              obtain ⟨h3, r3⟩ := h2.setSv HHV.out k (.slice a3 (s1.sl (l, m)).length c3)
              obtain ⟨h4, r4⟩ := h3.setPv HHV.out k (.slice a4 (s1.pd (l, m)).length c4)
              have r5 := (((r1.trans r2).trans r3).trans r4).drew
              have h5 := h4.ch (E := fun _ => False) ((Ch.refl _ _).drew) id
              have HSV3 : Hid (s1.sv (l, m) = .slice a3 (s1.sl (l, m)).length c3 ∧ s1.pv (l, m) = .slice a4 (s1.pd (l, m)).length c4) := ⟨hsv3, hpv4⟩
              obtain ⟨lc, bL, -, -, -⟩ := hR.ld (LS := LS) HF.out.2.2.2.1 hl
              have HH5 : Hid _ := And.intro h5 r5
              clear p0 p1 p2 p3 hsv3 hpv4 h1 h2 h3 h4 r1 r2 r3 r4 hdn htn hm h5 r5
              go_upto_region 18 with fail
              go_region
              all_goals refine ?main
              obtain ⟨h5, r5⟩ := HH5.out
              have HHR : Hid (Rep wr (Rst s1 t (upd s1.qv t v4) (upd s1.ql t (cutAt (s1.ql t) (s1.pl (l, k)))) pl' xv' K z f) ∧ Ch (fun e => e = 66) wr _) := ⟨hR, r5⟩
              have bL5 := r5.blk bL (by decide)
              have q15 : World.cell? _ ⟨LS, l * 4, none⟩ = some (.slice (some ⟨g, 0, none⟩) (m + 1) (s1.hc l)) := (bL5.cell (by omega)).trans ((bL.cell (by omega)).symm.trans q1)
              generalize ((((wr.setCell ⟨g, k * 4, none⟩ (.int .i64 (s1.th (l, m) : Int))).setCell ⟨g, k * 4 + 1, none⟩ (.int .i64 (pl' (l, m) : Int))).setCell ⟨g, k * 4 + 2, none⟩ (.slice a3 (s1.sl (l, m)).length c3)).setCell ⟨g, k * 4 + 3, none⟩ (.slice a4 (s1.pd (l, m)).length c4)).drew = w9 at h5 bL5 q15 HHR ⊢
              clear HH5 q1 p0' p1' p2' p3' k0 k1 k2' k3 zg bg r5
              have h5' : HoldP w9 s1.hv s1.hn s1.hc (upd s1.th (l, k) (s1.th (l, m))) (upd pl' (l, k) (pl' (l, m))) (upd s1.sv (l, k) (.slice a3 (s1.sl (l, m)).length c3)) (upd s1.pv (l, k) (.slice a4 (s1.pd (l, m)).length c4)) := h5
              obtain ⟨g', cg', hg1, hg2, hg3, hg4, hg5, hg6, hg7⟩ := h5'.at hmc
              rw [HHV.out] at hg1
              simp at hg1
              subst hg1
              obtain ⟨h1, r1⟩ := h5'.setTh HHV.out m 0
              obtain ⟨h2, r2⟩ := h1.setPl HHV.out m 0
              obtain ⟨h3, r3⟩ := h2.setSv HHV.out m (.slice as1 0 cs1)
              obtain ⟨h4, r4⟩ := h3.setPv HHV.out m (.slice ap1 0 cp1)
              have r6 := (((r1.trans r2).trans r3).trans r4).drew
              have h6 := h4.ch (E := fun _ => False) ((Ch.refl _ _).drew) id
              have ez : ((0 : Nat) : Int) = 0 := rfl
              rw [ez] at h6 r6
              have HH6 : Hid _ := And.intro h6 r6
              have HBL : Hid (Blk w9 LS 93 256 lc) := bL5
              clear h5 h5' h1 h2 h3 h4 r1 r2 r3 r4 h6 r6 ez
              have hmI : (m : Int) < (m : Int) + 1 := by omega
              go_upto_region 19 with fail
              go_region
              all_goals refine ?main
              obtain ⟨h6, r6⟩ := HH6.out
              have bL6 := r6.blk HBL.out (by decide)
              have q16 : World.cell? _ ⟨LS, l * 4, none⟩ = some (.slice (some ⟨g, 0, none⟩) (m + 1) (s1.hc l)) := (bL6.cell (by omega)).trans ((HBL.out.cell (by omega)).symm.trans q15)
              obtain ⟨hR0, r0⟩ := HHR.out
              have r7 := r0.trans r6
              have zL := bL6.frozen
              have em : s1.hn l - 1 = m := by rw [HM.out]; rfl
              generalize ((((w9.setCell ⟨g, m * 4, none⟩ (.int .i64 0)).setCell ⟨g, m * 4 + 1, none⟩ (.int .i64 0)).setCell ⟨g, m * 4 + 2, none⟩ (.slice as1 0 cs1)).setCell ⟨g, m * 4 + 3, none⟩ (.slice ap1 0 cp1)).drew = w10 at h6 r6 bL6 q16 r7 zL ⊢
              have hH : HoldP w10 s1.hv s1.hn s1.hc (swap s1.th (l, k) (l, s1.hn l - 1) 0) (swap pl' (l, k) (l, s1.hn l - 1) 0) (swap s1.sv (l, k) (l, s1.hn l - 1) (.slice as1 0 cs1)) (swap s1.pv (l, k) (l, s1.hn l - 1) (.slice ap1 0 cp1)) := by
                rw [em]
                unfold swap
                rw [HSV3.out.1, HSV3.out.2]
                exact h6
              have hG := hR0.gone (LS := LS) (g := g) (l := l) (k := k) HF.out.2.2.2.1 hl HK.out.1 HHV.out HSV.out HPV.out r7 hH
              have hIG : Inv N (Gone (Rst s1 t (upd s1.qv t v4) (upd s1.ql t (cutAt (s1.ql t) (s1.pl (l, k)))) pl' xv' K z f) l k g cs1 cp1 as1 ap1) := gone_inv hV HPL.out.1 ht hl HK.out.1 HK.out.2.1 HPL.out.2
              obtain ⟨hR11, r11⟩ := hG
              have em2 : (Rst s1 t (upd s1.qv t v4) (upd s1.ql t (cutAt (s1.ql t) (s1.pl (l, k)))) pl' xv' K z f).hn l - 1 = m := em
              rw [em2] at hR11 r11
              have bB11 := r11.blk bB (by decide)
              have c11 : Ch Ed w _ := hC.trans (r11.mono fun e he => Ed.one (by rcases he with rfl | rfl <;> simp))
              have hDef11 := r11.keep D _ hDef (by decide)
              have HS4 : Hid ((Gone (Rst s1 t (upd s1.qv t v4) (upd s1.ql t (cutAt (s1.ql t) (s1.pl (l, k)))) pl' xv' K z f) l k g cs1 cp1 as1 ap1).hn = upd s1.hn l (s1.hn l - 1) ∧ (Gone (Rst s1 t (upd s1.qv t v4) (upd s1.ql t (cutAt (s1.ql t) (s1.pl (l, k)))) pl' xv' K z f) l k g cs1 cp1 as1 ap1).th = swap s1.th (l, k) (l, s1.hn l - 1) 0 ∧ (Gone (Rst s1 t (upd s1.qv t v4) (upd s1.ql t (cutAt (s1.ql t) (s1.pl (l, k)))) pl' xv' K z f) l k g cs1 cp1 as1 ap1).ct = s1.ct ∧ (Gone (Rst s1 t (upd s1.qv t v4) (upd s1.ql t (cutAt (s1.ql t) (s1.pl (l, k)))) pl' xv' K z f) l k g cs1 cp1 as1 ap1).xk t = K ∧ (Gone (Rst s1 t (upd s1.qv t v4) (upd s1.ql t (cutAt (s1.ql t) (s1.pl (l, k)))) pl' xv' K z f) l k g cs1 cp1 as1 ap1).pz = z ∧ (Gone (Rst s1 t (upd s1.qv t v4) (upd s1.ql t (cutAt (s1.ql t) (s1.pl (l, k)))) pl' xv' K z f) l k g cs1 cp1 as1 ap1).ph = f ∧ (Gone (Rst s1 t (upd s1.qv t v4) (upd s1.ql t (cutAt (s1.ql t) (s1.pl (l, k)))) pl' xv' K z f) l k g cs1 cp1 as1 ap1).cb = s1.cb ∧ (Gone (Rst s1 t (upd s1.qv t v4) (upd s1.ql t (cutAt (s1.ql t) (s1.pl (l, k)))) pl' xv' K z f) l k g cs1 cp1 as1 ap1).L = some LS ∧ (Gone (Rst s1 t (upd s1.qv t v4) (upd s1.ql t (cutAt (s1.ql t) (s1.pl (l, k)))) pl' xv' K z f) l k g cs1 cp1 as1 ap1).T = some TS ∧ Apart (Gone (Rst s1 t (upd s1.qv t v4) (upd s1.ql t (cutAt (s1.ql t) (s1.pl (l, k)))) pl' xv' K z f) l k g cs1 cp1 as1 ap1).qv B) := ⟨rfl, rfl, rfl, upd_same _ _ _, rfl, rfl, rfl, HF.out.2.2.2.1, HTS.out, HAP.out⟩
              have hD4 : (Gone (Rst s1 t (upd s1.qv t v4) (upd s1.ql t (cutAt (s1.ql t) (s1.pl (l, k)))) pl' xv' K z f) l k g cs1 cp1 as1 ap1).D = s.D := hD1
              generalize Gone (Rst s1 t (upd s1.qv t v4) (upd s1.ql t (cutAt (s1.ql t) (s1.pl (l, k)))) pl' xv' K z f) l k g cs1 cp1 as1 ap1 = s4 at hR11 hIG HS4 hD4
              have HW11 : Hid _ := And.intro hR11 (And.intro bB11 (And.intro c11 hDef11))
              clear hH em em2 r7 r6 r0 hR0 HHR h6 HH6 hR hV bB hC hDef HBL bL6 hg2 hg3 hg4 hg5 hg6 hg7 HSV3 q15 bL5 bL r11 hR11 bB11 c11 hDef11
              go_upto_region 21 with fail
              obtain ⟨hR11, bB11, c11, hDef11⟩ := HW11.out
              have hR12 : Rep (w10.setCell ⟨LS, l * 4, none⟩ (.slice (some ⟨g, 0, none⟩) m (s1.hc l))) s4 := hR11
              have bB12 : Blk (w10.setCell ⟨LS, l * 4, none⟩ (.slice (some ⟨g, 0, none⟩) m (s1.hc l))) B 3 1 (fun _ => .int .i64 (t : Int)) := bB11
              have c12 : Ch Ed w (w10.setCell ⟨LS, l * 4, none⟩ (.slice (some ⟨g, 0, none⟩) m (s1.hc l))) := c11
              have hDef12 : (w10.setCell ⟨LS, l * 4, none⟩ (.slice (some ⟨g, 0, none⟩) m (s1.hc l))).heap[D]? = some (.deferred (some [])) := hDef11
              clear hR11 bB11 c11 hDef11 HW11
              generalize w10.setCell ⟨LS, l * 4, none⟩ (.slice (some ⟨g, 0, none⟩) m (s1.hc l)) = w12 at hR12 bB12 c12 hDef12 ⊢
              obtain ⟨lc2, bL2, -, qc, zL2⟩ := hR12.ld HS4.out.2.2.2.2.2.2.2.1 hl
              go_cut [144] from 136 to 143 (fun v wx => wx = w12 ∧ v = .bool (decide (m = 0 ∧ s4.ct l ≠ 0)))
              case first =>
                by_cases hm0 : m = 0
                · have hm0I : ((m : Int) == 0) = true := by simp [hm0]
                  have HM0 : Hid (m = 0) := hm0
                  clear hm0
                  by_cases hc0 : s4.ct l = 0
                  · have HC0 : Hid (s4.ct l = 0) := hc0
                    rw [hc0] at qc
                    clear hc0
                    go_wp2_with fail
                    go_meet
                    exact ⟨rfl, by simp [HC0.out]⟩
                  · have hc0I : ((s4.ct l : Int) == 0) = false := by
                      simp only [beq_eq_false_iff_ne]
                      omega
                    have HC0 : Hid (s4.ct l ≠ 0) := hc0
                    clear hc0
                    go_wp2_with fail
                    go_meet
                    exact ⟨rfl, by simp [HM0.out, HC0.out]⟩
                · have hm0I : ((m : Int) == 0) = false := by
                    simp only [beq_eq_false_iff_ne]
                    omega
                  have HM0 : Hid (m ≠ 0) := hm0
                  clear hm0
                  go_wp2_with fail
                  go_meet
                  exact ⟨rfl, by simp [HM0.out]⟩
              case rest =>
                obtain ⟨rfl, rfl⟩ := hcut
                go_upto_if 144 with fail
                have HR : Hid (Rep wc s4 ∧ Blk wc B 3 1 (fun _ => .int .i64 (t : Int)) ∧ Ch Ed w wc ∧ wc.heap[D]? = some (.deferred (some []))) := ⟨hR12, bB12, c12, hDef12⟩
                go_cut [18] from 144 to 167 (fun _ wx => ∃ s5, Rep wx s5 ∧ Inv N s5 ∧ Blk wx B 3 1 (fun _ => .int .i64 (t : Int)) ∧ Ch Ed w wx ∧ wx.heap[D]? = some (.deferred (some [])) ∧ Hid (s5.D = s.D ∧ s5.cb = s4.cb ∧ s5.L = some LS ∧ s5.T = some TS ∧ s5.hn = s4.hn ∧ s5.th = s4.th ∧ s5.xk = s4.xk ∧ s5.pz = s4.pz ∧ s5.ph = s4.ph ∧ (s5.ct l ≠ 0 ↔ s4.ct l ≠ 0 ∧ m ≠ 0)))
                case first =>
                  by_cases hcond : m = 0 ∧ s4.ct l ≠ 0
                  · have HCO : Hid (m = 0 ∧ s4.ct l ≠ 0) := hcond
                    have hcD : decide (m = 0 ∧ s4.ct l ≠ 0) = true := by simpa using hcond
                    rw [hcD]
                    have cr := contRemove_call hR12.drew hIG hN hl hcond.2
                    rw [hD4] at cr
                    obtain ⟨M2, hM2⟩ : ∃ M2, M2 = (s4.ql 3).getD ((s4.ql 3).length - 1) 0 := ⟨_, rfl⟩
                    rw [← hM2] at cr
                    have HM2 : Hid (M2 = (s4.ql 3).getD ((s4.ql 3).length - 1) 0) := hM2
                    clear hM2
                    have hwr := hIG.ctWrap hN hl hcond.2
                    clear hcD hcond hR12 bB12 c12 hDef12
                    go_upto_region 22 with fail
                    have FIN22 : Hid (∀ w13 v13, Ch (fun e => e = 3 ∨ e = 56) wc.drew w13 → (∀ B, Apart s4.qv B → Apart (upd s4.qv 3 v13) B ∧ ∀ sz c, Blk wc.drew B 3 sz c → Blk w13 B 3 sz c) → Blk w13 B 3 1 (fun _ => .int .i64 (t : Int)) ∧ Ch Ed w w13 ∧ w13.heap[D]? = some (.deferred (some []))) := by
                      intro w13 v13 hC13 hA13
                      obtain ⟨-, bB12, c12, hDef12⟩ := HR.out
                      exact ⟨(hA13 B HS4.out.2.2.2.2.2.2.2.2.2).2 1 _ bB12.drew, c12.drew.trans (hC13.mono fun e he => Ed.one (by rcases he with rfl | rfl <;> simp)), hC13.keep D _ hDef12 (by decide)⟩
                    have HD4 : Hid (s4.D = s.D) := hD4
                    go_cut [18] from 145 to 153 (fun v wx => v = .int .i64 (M2 : Int) ∧ ∃ v13, Rep wx { s4 with qv := upd s4.qv 3 v13, ql := upd s4.ql 3 (cutAt (s4.ql 3) (s4.ct l - 1)) } ∧ Blk wx B 3 1 (fun _ => .int .i64 (t : Int)) ∧ Ch Ed w wx ∧ wx.heap[D]? = some (.deferred (some [])))
                    case first =>
                      clear h hI hI1 hLx HS1 HF HHV HTS HK HP HAP HS2 HPL HSV HPV HLD HL0 hzL HDL HLIVE hzP hgi HZ hi HZ2 HM hkI hkI2 hmc hmS hmI hmv2 hkD q16 zL hIG HS4 hD4 bL2 zL2 HR HCO HM2 hN ht hl
                      go_region_with (go_at_call 23; refine cr.mono ?_; rintro e w13 ⟨rfl, v13, hR13, hC13, hA13⟩; have HX : Hid _ := And.intro hR13 (FIN22.out w13 v13 hC13 hA13); clear hR13 hC13 hA13 cr hwr)
                      all_goals
                        go_wp2_with fail
                        go_meet
                        have hX := HX.out
                        rw [← HD4.out] at hX
                        exact ⟨rfl, v13, hX⟩
                    case rest =>
                      obtain ⟨rfl, v13, hR13, bB13, c13, hDef13⟩ := hcut
                      clear cr hwr FIN22 qc zL2 bL2
                      obtain ⟨hm1, -⟩ := hIG.cin ((s4.ql 3).length - 1) (by have := (hIG.cct l hl HCO.out.2).1; omega)
                      have hIC := hIG.contRemove hl HCO.out.2 (upd s4.qv 3 v13) (upd_other _ _ (by omega))
                      rw [← HM2.out] at hm1 hIC
                      have cg := get19_made hR13.drew (LS := LS) HS4.out.2.2.2.2.2.2.2.1 M2 hm1
                      have cg' : Calls Yba.prog 19 #[.pointer (some ⟨s.D, 0, none⟩), .int .i64 (M2 : Int)] wc.drew fun e w' => e = .returned (.pointer (some ⟨LS, M2 * 4, none⟩)) ∧ ∃ m, w' = wc.drew.drewN m := by rw [← hD4]; exact cg
                      obtain ⟨lc3, bL3, -, qc3, zL3⟩ := hR13.ld (LS := LS) HS4.out.2.2.2.2.2.2.2.1 hl
                      have qc3' : wc.cell? ⟨LS, l * 4 + 1, none⟩ = some (.int .i64 (s4.ct l : Int)) := qc3
                      have qM := bL3.cell (i := M2 * 4 + 1) (by omega)
                      have HIC : Hid _ := hIC
                      have FIN23 : Hid (∀ n, (Rep ((wc.drewN n).setCell ⟨LS, M2 * 4 + 1, none⟩ (.int .i64 (s4.ct l : Int))) { s4 with qv := upd s4.qv 3 v13, ql := upd s4.ql 3 (cutAt (s4.ql 3) (s4.ct l - 1)), ct := upd s4.ct M2 (s4.ct l) } ∧ Blk ((wc.drewN n).setCell ⟨LS, M2 * 4 + 1, none⟩ (.int .i64 (s4.ct l : Int))) B 3 1 (fun _ => .int .i64 (t : Int)) ∧ Ch Ed w ((wc.drewN n).setCell ⟨LS, M2 * 4 + 1, none⟩ (.int .i64 (s4.ct l : Int))) ∧ ((wc.drewN n).setCell ⟨LS, M2 * 4 + 1, none⟩ (.int .i64 (s4.ct l : Int))).heap[D]? = some (.deferred (some []))) ∧ (Rep ((wc.setCell ⟨LS, M2 * 4 + 1, none⟩ (.int .i64 (s4.ct l : Int))).drewN n) { s4 with qv := upd s4.qv 3 v13, ql := upd s4.ql 3 (cutAt (s4.ql 3) (s4.ct l - 1)), ct := upd s4.ct M2 (s4.ct l) } ∧ Blk ((wc.setCell ⟨LS, M2 * 4 + 1, none⟩ (.int .i64 (s4.ct l : Int))).drewN n) B 3 1 (fun _ => .int .i64 (t : Int)) ∧ Ch Ed w ((wc.setCell ⟨LS, M2 * 4 + 1, none⟩ (.int .i64 (s4.ct l : Int))).drewN n) ∧ ((wc.setCell ⟨LS, M2 * 4 + 1, none⟩ (.int .i64 (s4.ct l : Int))).drewN n).heap[D]? = some (.deferred (some [])))) := by
                        intro n
                        obtain ⟨r1, r2⟩ := (hR13.drewN n).setCt (LS := LS) HS4.out.2.2.2.2.2.2.2.1 hm1 (s4.ct l)
                        obtain ⟨r3, r4⟩ := hR13.setCt (LS := LS) HS4.out.2.2.2.2.2.2.2.1 hm1 (s4.ct l)
                        exact ⟨⟨r1, r2.blk (bB13.drewN n) (by decide), (c13.drewN n).trans (r2.mono fun e he => Ed.one (by simp [he])), r2.keep D _ hDef13 (by decide)⟩, ⟨r3.drewN n, (r4.blk bB13 (by decide)).drewN n, (c13.trans (r4.mono fun e he => Ed.one (by simp [he]))).drewN n, r4.keep D _ hDef13 (by decide)⟩⟩
                      clear hIC cg qc3 hR13 bB13 c13 hDef13
                      go_upto_region 23 with fail
                      go_cut [] from 154 to 164 (fun wx => Rep wx { s4 with qv := upd s4.qv 3 v13, ql := upd s4.ql 3 (cutAt (s4.ql 3) (s4.ct l - 1)), ct := upd s4.ct M2 (s4.ct l) } ∧ Blk wx B 3 1 (fun _ => .int .i64 (t : Int)) ∧ Ch Ed w wx ∧ wx.heap[D]? = some (.deferred (some [])))
                      case first =>
                        clear h hI hI1 hLx HS1 HF HHV HTS HK HP HAP HS2 HPL HSV HPV HLD HL0 hzL HDL HLIVE hzP hgi HZ hi HZ2 HM hkI hkI2 hmc hmS hmI hmv2 hkD q16 zL hIG HS4 hD4 HR HCO HM2 hN ht hl HIC
                        go_region_with (go_at_call 19; refine cg'.mono ?_; rintro e w14 ⟨rfl, m14, rfl⟩)
                        all_goals
                          go_wp2_with fail
                          go_meet
                          first
                            | exact (FIN23.out _).1
                            | exact (FIN23.out _).2
                      case rest =>
                        obtain ⟨hR14, bB14, c14, hDef14⟩ := hcut
                        clear cg' FIN23 qc3' qM zL3 bL3
                        obtain ⟨lc4, bL4, -, -, zL4⟩ := hR14.ld (LS := LS) HS4.out.2.2.2.2.2.2.2.1 hl
                        have q4 := bL4.cell (i := l * 4 + 1) (by omega)
                        obtain ⟨r1, r2⟩ := hR14.setCt (LS := LS) HS4.out.2.2.2.2.2.2.2.1 hl 0
                        have ez : ((0 : Nat) : Int) = 0 := rfl
                        rw [ez] at r1 r2
                        have HX : Hid _ := And.intro r1 r2
                        clear r1 r2 ez
                        go_wp2_with fail
                        go_meet
                        obtain ⟨r1, r2⟩ := HX.out
                        obtain ⟨f1, f2, f3, f4, f5, f6, f7, f8, f9, f10⟩ := HS4.out
                        exact ⟨_, r1, HIC.out, r2.blk bB14 (by decide), c14.trans (r2.mono fun e he => Ed.one (by simp [he])), r2.keep D _ hDef14 (by decide), ⟨hD4, rfl, f8, f9, rfl, rfl, rfl, rfl, rfl, by
                          have := HCO.out.1
                          show upd (upd s4.ct M2 (s4.ct l)) l 0 l ≠ 0 ↔ _
                          rw [upd_same]
                          simp [this]⟩⟩
                  · have hcD : decide (m = 0 ∧ s4.ct l ≠ 0) = false := by simpa using hcond
                    have HCO : Hid (¬ (m = 0 ∧ s4.ct l ≠ 0)) := hcond
                    rw [hcD]
                    clear hcD hcond
                    go_wp2_with fail
                    go_meet
                    obtain ⟨f1, f2, f3, f4, f5, f6, f7, f8, f9, f10⟩ := HS4.out
                    exact ⟨s4, hR12, hIG, bB12, c12, hDef12, ⟨hD4, rfl, f8, f9, rfl, rfl, rfl, rfl, rfl, by have := HCO.out; omega⟩⟩
                case rest =>
                  obtain ⟨s5, hR5, hI5, bB5, c5, hDef5, HS5⟩ := hcut
                  clear HR hR12 bB12 c12 hDef12 bL2 qc zL2
                  obtain ⟨e1, e2, e3, e4, e5, e6, e7, e8, e9, e10⟩ := HS5.out
                  have cc := compact_rep hR5 hI5 (by omega) e3 e4 t ht
                  rw [e1] at cc
                  have qB5 := bB5.cell (i := 0) (by omega)
                  clear e1 e2 e3 e4 e5 e6 e7 e8 e9 e10
                  go_wp2_with fail
                  refine cc.mono ?_
                  rintro e w20 ⟨rfl, hC20, hway⟩
                  have hDef20 := hC20.keep D _ hDef5 (by unfold Ec Et; decide)
                  have c20 : Ch Ed w w20 := c5.trans (hC20.mono fun e he => Ed.of_Ec he)
                  obtain ⟨s6, hR20, hI20, HS6⟩ : ∃ s6, Rep w20 s6 ∧ Inv N s6 ∧ Hid (s6.D = s5.D ∧ s6.cb = s5.cb ∧ s6.L = s5.L ∧ s6.T = s5.T ∧ s6.hn = s5.hn ∧ s6.th = s5.th ∧ (liveK (s6.xk t)).length = (liveK (s5.xk t)).length ∧ s6.pz = s5.pz ∧ s6.ph = s5.ph ∧ s6.ct = s5.ct) := by
                    rcases hway with h | ⟨v', h⟩
                    · exact ⟨s5, h, hI5, rfl, rfl, rfl, rfl, rfl, rfl, rfl, rfl, rfl, rfl⟩
                    · refine ⟨_, h, hI5.cmp ht v', rfl, rfl, rfl, rfl, rfl, rfl, ?_, rfl, rfl, rfl⟩
                      show (liveK (upd s5.xk t (liveK (s5.xk t)) t)).length = _
                      rw [upd_same, liveK_idem]
                  clear cc hway hC20 hR5 hI5 bB5 c5 hDef5 qB5
                  go_wp2_with fail
                  obtain ⟨e1, e2, e3, e4, e5, e6, e7, e8, e9, e10⟩ := HS5.out
                  obtain ⟨d1, d2, d3, d4, d5, d6, d7, d8, d9, d10⟩ := HS6.out
                  obtain ⟨f1, f2, f3, f4, f5, f6, f7, f8, f9, f10⟩ := HS4.out
                  have hDR1 : DropRel s1 s6 t l k := DropRel.mk' hI1 hl HK.out.1 HK.out.2.1 HM.out (d5.trans (e5.trans f1)) (d6.trans (e6.trans f2)) (d7.trans (by rw [e7, f4])) HLIVE.out (d8.trans (e8.trans f5)) HZ2.out.1 (d9.trans (e9.trans f6)) HZ2.out.2 (by rw [d10, e10, f3])
                  have hDR : DropRel s s6 t l k := by
                    rw [HS1.out] at hDR1
                    exact ⟨hDR1.thIn, hDR1.live, hDR1.pz, hDR1.ph, hDR1.ct⟩
                  refine ⟨by simp, .inl ⟨_, _, rfl, run_takeDeferred hDef20, ?_⟩⟩
                  refine ⟨_, results_none Yba.results11 _ _ _, rfl, s6, LS, hR20.put HDL.out.1 hDef20 rfl _, hI20, d1.trans e1, ?_, d3.trans e3, ?_, c20.putNew HDL.out.2 _, .inr ⟨k, by rw [← HF.out.1]; exact HK.out.1, by rw [← HF.out.2.1]; exact HK.out.2.1, hDR⟩⟩
                  · rw [d2, e2, f7, HS1.out]
                  · rw [d4, e4, ← HTS.out, HS1.out]

#print axioms dropNested_rep
end Go.Proofs.Ybulkbzhm
