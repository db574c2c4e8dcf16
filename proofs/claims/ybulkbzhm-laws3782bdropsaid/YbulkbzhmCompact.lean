/-
  compact.
-/
import Derived.Test.YbulkbzhmInv
import Derived.Lib.SliceRun
namespace Go.Proofs.Ybulkbzhm
set_option linter.unusedSectionVars false
variable [Base]
open Go.RowKit Go.Maps
open Go.WideShapes (add_plain)

section
variable {w w' : World} {s : St}

theorem Rep.mkSlots (h : Rep w s) (hc : Ch (fun e => e = 21) w w') {sl' : Nat × Nat → List Nat} (hs : LRows w' 21 .i32 s.sv sl') : Rep w' { s with sl := sl' } :=
  ⟨h.d.ch hc (by decide) (by decide) (by decide), h.lock.ch hc (by decide), h.thr.ch hc (by decide) (by decide) (by decide), h.holds.ch hc (by decide), h.room, hs, LRows.chL h.pends hc (by decide), LRows.chL h.locks hc (by decide), h.calls.ch hc (by decide), h.map.ch hc (by decide)⟩

theorem Rep.setSl (h : Rep w s) {p : Nat × Nat} {g n cap : Nat} (hv : s.sv p = .slice (some ⟨g, 0, none⟩) n cap) (j a : Nat) : Rep (w.setCell ⟨g, j, none⟩ (.int .i32 (a : Int))) { s with sl := upd s.sl p ((s.sl p).set j a) } ∧ Ch (fun e => e = 21) w (w.setCell ⟨g, j, none⟩ (.int .i32 (a : Int))) := by
  obtain ⟨sz, c, hb⟩ := (LRow.loc 21 .i32).typed (h.slots.row p) (g := g) (by rw [hv]; rfl)
  have hc : Ch (fun e => e = 21) w (w.setCell ⟨g, j, none⟩ (.int .i32 (a : Int))) := (Ch.refl (fun e => e = 21) w).setCell hb rfl _ _
  exact ⟨h.mkSlots hc (h.slots.set p hv j a), hc⟩

theorem Rep.mkThr (h : Rep w s) (hc : Ch Et w w') {TS : Nat} (hT : s.T = some TS) {xv' : Nat → Value} {xk' : Nat → List Nat} (ht : ThrP w' TS xv' xk' s.qv) : Rep w' { s with xv := xv', xk := xk' } := by
  have n : ∀ e : TypeId, e ≠ 104 → e ≠ 70 → e ≠ 87 → ¬ Et e := fun e a b c h => by
    rcases h with h | h | h
    · exact a h
    · exact b h
    · exact c h
  exact ⟨h.d.ch hc (n _ (by decide) (by decide) (by decide)) (n _ (by decide) (by decide) (by decide)) (n _ (by decide) (by decide) (by decide)), h.lock.ch hc (n _ (by decide) (by decide) (by decide)), .inr ⟨TS, hT, ht⟩, h.holds.ch hc (n _ (by decide) (by decide) (by decide)), h.room, LRows.chL h.slots hc (n _ (by decide) (by decide) (by decide)), LRows.chL h.pends hc (n _ (by decide) (by decide) (by decide)), LRows.chL h.locks hc (n _ (by decide) (by decide) (by decide)), h.calls.ch hc (n _ (by decide) (by decide) (by decide)), h.map.ch hc (n _ (by decide) (by decide) (by decide))⟩

theorem Rep.thrP (h : Rep w s) {TS : Nat} (hT : s.T = some TS) : ThrP w TS s.xv s.xk s.qv := by
  rcases h.thr with ⟨h0, _⟩ | ⟨TS', h0, ht⟩
  · rw [h0] at hT
    simp at hT
  · rw [h0] at hT
    simp at hT
    subst hT
    exact ht

end

/-- What a compaction leaves. -/
def Cmp (s : St) (t : Nat) (v : Value) : St := { s with xv := upd s.xv t v, xk := upd s.xk t (liveK (s.xk t)), sl := fun p => if s.th p = t ∧ p.2 < s.hn p.1 ∧ p.1 ≤ 2 then (s.sl p).map (movedTo (s.xk t)) else s.sl p }

def Ec (e : TypeId) : Prop := Et e ∨ e = 21

/-- The holds whose slots are named anew already: those of t's first i locks. -/
def Done (s : St) (t i : Nat) (p : Nat × Nat) : Prop := s.th p = t ∧ p.2 < s.hn p.1 ∧ p.1 ≤ 2 ∧ ∃ j, j < i ∧ (s.ql t).getD j 0 = p.1

theorem map_step (f : Nat → Nat) (L : List Nat) (j : Nat) (hj : j < L.length) : ((L.take j).map f ++ L.drop j).set j (f (L.getD j 0)) = (L.take (j + 1)).map f ++ L.drop (j + 1) := by
  have hl : ((L.take j).map f).length = j := by simp; omega
  have e1 : L.drop j = L.getD j 0 :: L.drop (j + 1) := by
    rw [List.drop_eq_getElem_cons hj]
    simp [List.getD, hj]
  have e2 : L.take (j + 1) = L.take j ++ [L.getD j 0] := by
    rw [List.take_add_one]
    simp [List.getD, hj]
  rw [List.set_append_right _ _ (by omega), hl, e1, e2]
  simp

theorem map_at (f : Nat → Nat) (L : List Nat) (j : Nat) (hj : j < L.length) : ((L.take j).map f ++ L.drop j).getD j 0 = L.getD j 0 := by
  have hl : ((L.take j).map f).length = j := by simp; omega
  simp only [List.getD]
  rw [List.getElem?_append_right (by omega), hl]
  simp

def CmpP (s : St) (t : Nat) (v : Value) (sl' : Nat × Nat → List Nat) : St := { s with xv := upd s.xv t v, xk := upd s.xk t (liveK (s.xk t)), sl := sl' }

theorem LRow.at {w : World} {e : TypeId} {q : IntKind} {v : Value} {L : List Nat} (h : LRow w e q v L) {i : Nat} (hi : i < L.length) : ∃ g cap sz c, v = .slice (some ⟨g, 0, none⟩) L.length cap ∧ L.length ≤ cap ∧ cap ≤ maxLen ∧ Blk w g e sz c ∧ cap ≤ sz ∧ w.cell? ⟨g, i, none⟩ = some (.int q ((L.getD i 0 : Nat) : Int)) := by
  rcases h with ⟨_, rfl⟩ | ⟨g, cap, sz, c, h0, h1, h2, h3, h4, h5⟩
  · simp at hi
  · exact ⟨g, cap, sz, c, h0, h1, h2, h3, h4, (h3.cell (by omega)).trans (by rw [h5 i hi])⟩

theorem LRow.val {w : World} {e : TypeId} {q : IntKind} {v : Value} {L : List Nat} (h : LRow w e q v L) : ∃ a cap, v = .slice a L.length cap := by
  rcases h with ⟨rfl, rfl⟩ | ⟨g, cap, sz, c, h0, _⟩
  · exact ⟨none, 0, rfl⟩
  · exact ⟨_, _, h0⟩

set_option maxRecDepth 100000 in
set_option maxHeartbeats 2000000 in
theorem compact_rep {w : World} {s : St} {N : Nat} (h : Rep w s) (hI : Inv N s) (hN : N ≤ 9000) {LS TS : Nat} (hL : s.L = some LS) (hT : s.T = some TS) (t : Nat) (ht : t ≤ 2) :
    Calls Yba.prog 26 #[.pointer (some ⟨s.D, 0, none⟩), .int .i64 (t : Int)] w fun e w' => e = .returned (.tuple #[]) ∧ Ch Ec w w' ∧ (Rep w' s ∨ ∃ v', Rep w' (Cmp s t v')) := by
  have hnil : ∀ (W : World) (a : Option Addr) (n c : Nat), (binOp .eql 64 (.slice a n c) (.slice none 0 0)).run Yba.prog W = .ok (.bool a.isNone) W := fun W a n c => Lib.run_eql_slice_nil W _ _ a n c 0 0 Yba.underlying64
  have cl := get20_made h hT t ht
  go_enter Yba.func26, Yba.ntmps26
  go_wp2_with fail
  refine cl.mono ?_
  rintro e w1 ⟨rfl, m1, rfl⟩
  have h1 := h.drewN m1
  have hC1 : Ch Ec w (w.drewN m1) := (Ch.refl _ w).drewN m1
  have hsz : w.heap.size = (w.drewN m1).heap.size := rfl
  generalize w.drewN m1 = w1 at *
  have cc := compacted_any (h1.thrP hT) t ht (by have := hI.zx t ht; omega)
  go_wp2_with fail
  refine cc.mono ?_
  rintro e w2 ⟨hC2, h2⟩
  have hE : ∀ e, Et e → Ec e := fun e he => .inl he
  rcases h2 with ⟨rfl, hP⟩ | ⟨v', M, cM, rfl, hM, bM, hmv, hP⟩
  · go_wp2
    exact bodyPost_ret (results_none Yba.results26 _ _ _) rfl ⟨rfl, hC1.trans (hC2.mono hE), .inl (h1.mkThr hC2 hT hP)⟩
  · have hR := h1.mkThr hC2 hT hP
    have hMo : ∀ p g, (s.sv p).ownBlock = some g → g ≠ M := fun p g hg => by
      obtain ⟨sz, c, hb⟩ := (LRow.loc 21 .i32).typed (h1.slots.row p) hg
      have := hb.lt
      omega
    have hC : Ch Ec w w2 := hC1.trans (hC2.mono hE)
    obtain ⟨tc, lv, hq, -, -⟩ := hP
    have c5 : w2.cell? ⟨TS, t * 8 + 5, none⟩ = some (s.qv t) := (hq.blk.cell (by omega)).trans (by rw [(hq.one t ht).c5])
    have hrow := hR.locks.row t
    obtain ⟨a, cap, hqv⟩ := hrow.val
    simp only at hqv
    rw [hqv] at c5
    have hlen : (s.ql t).length ≤ 9000 := Nat.le_trans (hI.zq t (by omega)) hN
    have hlenI : ((s.ql t).length : Int) ≤ 9000 := by omega
    clear hq cl cc hrow
    have HMV : Hid (∀ j, j < (s.xk t).length → (s.xk t).getD j 0 ≠ 2 → cM j = .int .i32 (movedTo (s.xk t) j : Int)) := hmv
    have HQV : Hid (s.qv t = .slice a (s.ql t).length cap) := hqv
    have HMO : Hid (∀ p g, (s.sv p).ownBlock = some g → g ≠ M) := hMo
    have HSZ : Hid ((s.xk t).length ≤ 9000) := Nat.le_trans (hI.zx t ht) hN
    go_wp2_with fail
    go_loopg [27] (s.ql t).length (fun k v wr => ∃ (i : Nat) (sl' : Nat × Nat → List Nat), k + i = (s.ql t).length ∧ v = .int .i64 (i : Int) ∧ Rep wr (CmpP s t v' sl') ∧ (∀ p, Done s t i p → sl' p = (s.sl p).map (movedTo (s.xk t))) ∧ (∀ p, ¬ Done s t i p → sl' p = s.sl p) ∧ Blk wr M 21 (s.xk t).length cM ∧ Ch Ec w wr)
    case atStart => exact ⟨0, s.sl, by omega, rfl, hR, fun p hp => by obtain ⟨_, _, _, j, hj, _⟩ := hp; omega, fun p _ => rfl, bM, hC⟩
    case round =>
      clear hR hC bM c5 hmv hqv hMo
      obtain ⟨i, sl', hk, rfl, hR, hd1, hd2, bM, hC⟩ := hrel
      have HD1 : Hid (∀ p, Done s t i p → sl' p = (s.sl p).map (movedTo (s.xk t))) := hd1
      have HD2 : Hid (∀ p, ¬ Done s t i p → sl' p = s.sl p) := hd2
      clear hd1 hd2
      by_cases hi : i < (s.ql t).length
      · obtain ⟨l, k0, hl0, hl, hk0, hth0, hpl0⟩ := hI.lk t i ht hi
        obtain ⟨gq, capq, szq, cq, hvq, -, -, -, -, hcq⟩ := (hR.locks.row t).at (show i < ((CmpP s t v' sl').ql t).length from hi)
        have hvq' : s.qv t = .slice (some ⟨gq, 0, none⟩) (s.ql t).length capq := hvq
        rw [HQV.out] at hvq'
        simp at hvq'
        obtain ⟨rfl, rfl⟩ := hvq'
        have hcq' : wr.cell? ⟨gq, i, none⟩ = some (.int .i64 (l : Int)) := by rw [hcq]; show some (Value.int IntKind.i64 (((s.ql t).getD i 0 : Nat) : Int)) = _; rw [hl0]
        have ch := hold_made hR (LS := LS) hL t l hl
        have hiI : (i : Int) < ((s.ql t).length : Int) := by omega
        have HL0 : Hid ((s.ql t).getD i 0 = l ∧ s.th (l, k0) = t ∧ s.pl (l, k0) = i ∧ k0 < s.hn l) := ⟨hl0, hth0, hpl0, hk0⟩
        clear hl0 hth0 hpl0 hcq hvq hk0
        go_wp2_with fail
        refine ch.mono ?_
        rintro e w3 ⟨hp, rfl, hheld, m3, rfl⟩
        have hR3 := hR.drewN m3
        have bM3 := bM.drewN m3
        have hC3 := hC.drewN m3
        clear hR bM hC ch
        generalize wr.drewN m3 = w3 at hR3 bM3 hC3 hcq' ⊢
        rcases hheld with ⟨_, hno⟩ | ⟨k, g, hk1, hk2, hv1, rfl⟩
        · obtain ⟨_, a1, _, a2⟩ := HL0.out
          exact absurd a1 (hno k0 a2)
        have hk1' : k < s.hn l := hk1
        have hk2' : s.th (l, k) = t := hk2
        have HK : Hid (k < s.hn l ∧ s.th (l, k) = t) := ⟨hk1', hk2'⟩
        clear hk1 hk2
        have hnd : ¬ Done s t i (l, k) := fun ⟨_, _, _, j, hj, hj2⟩ => by
          have := hI.nodup ht hi (show j < (s.ql t).length by omega) (HL0.out.1.trans hj2.symm)
          omega
        have hsl : sl' (l, k) = s.sl (l, k) := HD2.out _ hnd
        obtain ⟨⟨_, _⟩, hnc, _⟩ := hR3.holds.val l
        obtain ⟨g', cg, hv2, g1, -, -, g4, -, g6⟩ := hR3.holds.at (l := l) (k := k) (show k < s.hc l from Nat.lt_of_lt_of_le hk1' hnc)
        have : g' = g := by
          have hv1' : s.hv l = .slice (some ⟨g, 0, none⟩) (s.hn l) (s.hc l) := hv1
          have hv2' : s.hv l = .slice (some ⟨g', 0, none⟩) (s.hn l) (s.hc l) := hv2
          rw [hv1'] at hv2'
          simp at hv2'
          exact hv2'.symm
        subst this
        have HGV : Hid (s.hv l = .slice (some ⟨g', 0, none⟩) (s.hn l) (s.hc l)) := hv2
        obtain ⟨asl, caps, hvs⟩ := (hR3.slots.row (l, k)).val
        have hvs' : s.sv (l, k) = .slice asl (sl' (l, k)).length caps := hvs
        rw [hsl] at hvs'
        have g4' : w3.cell? ⟨g', k * 4 + 2, none⟩ = some (.slice asl (s.sl (l, k)).length caps) := by rw [g4]; exact congrArg some hvs'
        have hlenS : ((s.sl (l, k)).length : Int) ≤ 9000 := by have := hI.zs l k hl; omega
        have HVS : Hid (s.sv (l, k) = .slice asl (s.sl (l, k)).length caps) := hvs'
        clear hvs hvs' hv1 hv2 g4 g1 g6 hk1' hk2' hnc
        have HSL : Hid (sl' (l, k) = s.sl (l, k)) := hsl
        have HND : Hid (¬ Done s t i (l, k)) := hnd
        clear hsl hnd
        go_wp2_with fail
        go_loopg [40] (s.sl (l, k)).length (fun k2 v wx => ∃ j : Nat, k2 + j = (s.sl (l, k)).length ∧ v = .int .i64 (j : Int) ∧ Rep wx (CmpP s t v' (upd sl' (l, k) (((s.sl (l, k)).take j).map (movedTo (s.xk t)) ++ (s.sl (l, k)).drop j))) ∧ Blk wx M 21 (s.xk t).length cM ∧ Ch Ec w wx)
        case atStart =>
          refine ⟨0, by omega, rfl, ?_, bM3, hC3⟩
          have e : upd sl' (l, k) (((s.sl (l, k)).take 0).map (movedTo (s.xk t)) ++ (s.sl (l, k)).drop 0) = sl' := by
            have : (((s.sl (l, k)).take 0).map (movedTo (s.xk t)) ++ (s.sl (l, k)).drop 0) = sl' (l, k) := by rw [HSL.out]; rfl
            rw [this, upd_self]
          rw [e]
          exact hR3
        case round =>
          clear hR3 bM3 hC3 g4' hcq'
          obtain ⟨j, hkj, rfl, hR4, bM4, hC4⟩ := hrel
          by_cases hj : j < (s.sl (l, k)).length
          · have hcur : (upd sl' (l, k) (((s.sl (l, k)).take j).map (movedTo (s.xk t)) ++ (s.sl (l, k)).drop j) (l, k)).length = (s.sl (l, k)).length := by rw [upd_same]; simp; omega
            obtain ⟨gs, capx, szs, cs, hx1, -, hx2, hx3, hx4, hx5⟩ := (hR4.slots.row (l, k)).at (i := j) (show j < (upd sl' (l, k) _ (l, k)).length by rw [hcur]; exact hj)
            have hx1' : s.sv (l, k) = .slice (some ⟨gs, 0, none⟩) (s.sl (l, k)).length capx := by
              have : s.sv (l, k) = .slice (some ⟨gs, 0, none⟩) (upd sl' (l, k) (((s.sl (l, k)).take j).map (movedTo (s.xk t)) ++ (s.sl (l, k)).drop j) (l, k)).length capx := hx1
              rwa [hcur] at this
            have hx1'' := hx1'
            rw [HVS.out] at hx1'
            simp at hx1'
            obtain ⟨rfl, rfl⟩ := hx1'
            have hnj : wr.cell? ⟨gs, j, none⟩ = some (.int .i32 (((s.sl (l, k)).getD j 0 : Nat) : Int)) := by
              rw [hx5]
              show some (Value.int IntKind.i32 (((upd sl' (l, k) (((s.sl (l, k)).take j).map (movedTo (s.xk t)) ++ (s.sl (l, k)).drop j) (l, k)).getD j 0 : Nat) : Int)) = _
              rw [upd_same, map_at _ _ _ hj]
            obtain ⟨hkk, htt⟩ := HK.out
            have hmem : (s.sl (l, k)).getD j 0 ∈ s.sl (l, k) := by
              have : (s.sl (l, k)).getD j 0 = (s.sl (l, k))[j] := by simp [List.getD, hj]
              rw [this]
              exact List.getElem_mem hj
            have hin := hI.sin l k _ hl hkk hmem
            rw [htt] at hin
            obtain ⟨hin1, hin2⟩ := hin
            have hMc : wr.cell? ⟨M, (s.sl (l, k)).getD j 0, none⟩ = some (.int .i32 (movedTo (s.xk t) ((s.sl (l, k)).getD j 0) : Int)) := (bM4.cell hin1).trans (by rw [HMV.out _ hin1 hin2])
            have hgM : gs ≠ M := HMO.out (l, k) gs (by rw [hx1'']; rfl)
            have hMg : M ≠ gs := fun h => hgM h.symm
            obtain ⟨g2, cg2, hv2, b66, -, -, g4, -, g6⟩ := hR4.holds.at (l := l) (k := k) (show k < s.hc l from Nat.lt_of_lt_of_le hkk (hR4.holds.val l).2.1)
            have : g2 = g' := by
              have hv2' : s.hv l = .slice (some ⟨g2, 0, none⟩) (s.hn l) (s.hc l) := hv2
              rw [HGV.out] at hv2'
              simp at hv2'
              exact hv2'.symm
            subst this
            have g4' : wr.cell? ⟨g2, k * 4 + 2, none⟩ = some (.slice (some ⟨gs, 0, none⟩) (s.sl (l, k)).length caps) := by rw [g4]; exact congrArg some hx1''
            have hjI : (j : Int) < ((s.sl (l, k)).length : Int) := by omega
            have zgs := hx3.frozen
            obtain ⟨hR5, hC5⟩ := hR4.setSl (p := (l, k)) hx1'' j (movedTo (s.xk t) ((s.sl (l, k)).getD j 0))
            have hR6 : Rep (wr.setCell ⟨gs, j, none⟩ (.int .i32 (movedTo (s.xk t) ((s.sl (l, k)).getD j 0) : Int))).drew (CmpP s t v' (upd sl' (l, k) (((s.sl (l, k)).take (j + 1)).map (movedTo (s.xk t)) ++ (s.sl (l, k)).drop (j + 1)))) := by
              have e : upd (upd sl' (l, k) (((s.sl (l, k)).take j).map (movedTo (s.xk t)) ++ (s.sl (l, k)).drop j)) (l, k) ((upd sl' (l, k) (((s.sl (l, k)).take j).map (movedTo (s.xk t)) ++ (s.sl (l, k)).drop j) (l, k)).set j (movedTo (s.xk t) ((s.sl (l, k)).getD j 0))) = upd sl' (l, k) (((s.sl (l, k)).take (j + 1)).map (movedTo (s.xk t)) ++ (s.sl (l, k)).drop (j + 1)) := by
                rw [upd_upd, upd_same, map_step _ _ _ hj]
              have := hR5.drew
              rw [show ({ CmpP s t v' (upd sl' (l, k) (((s.sl (l, k)).take j).map (movedTo (s.xk t)) ++ (s.sl (l, k)).drop j)) with sl := upd (CmpP s t v' (upd sl' (l, k) (((s.sl (l, k)).take j).map (movedTo (s.xk t)) ++ (s.sl (l, k)).drop j))).sl (l, k) (((CmpP s t v' (upd sl' (l, k) (((s.sl (l, k)).take j).map (movedTo (s.xk t)) ++ (s.sl (l, k)).drop j))).sl (l, k)).set j (movedTo (s.xk t) ((s.sl (l, k)).getD j 0))) } : St) = CmpP s t v' (upd (upd sl' (l, k) (((s.sl (l, k)).take j).map (movedTo (s.xk t)) ++ (s.sl (l, k)).drop j)) (l, k) ((upd sl' (l, k) (((s.sl (l, k)).take j).map (movedTo (s.xk t)) ++ (s.sl (l, k)).drop j) (l, k)).set j (movedTo (s.xk t) ((s.sl (l, k)).getD j 0)))) from rfl, e] at this
              exact this
            have bM6 : Blk (wr.setCell ⟨gs, j, none⟩ (.int .i32 (movedTo (s.xk t) ((s.sl (l, k)).getD j 0) : Int))).drew M 21 (s.xk t).length cM := (bM4.set_other (a := ⟨gs, j, none⟩) hMg _).drew
            have hC6 : Ch Ec w (wr.setCell ⟨gs, j, none⟩ (.int .i32 (movedTo (s.xk t) ((s.sl (l, k)).getD j 0) : Int))).drew := (hC4.trans (hC5.mono fun e he => .inr he)).drew
            have hin1I : (((s.sl (l, k)).getD j 0 : Nat) : Int) < ((s.xk t).length : Int) := by omega
            clear hR5 hC5 hx5 g4 hmem hin2 hR4 bM4 hC4 b66
            generalize (s.sl (l, k)).getD j 0 = n at *
            generalize movedTo (s.xk t) n = fn at *
            go_wp2_with fail
            go_region
            go_wp2_with fail
            go_roundg (gk - 1)
            case measure => omega
            case rel => exact ⟨j + 1, by omega, by go_num, hR6, bM6, hC6⟩
          · have hje : j = (s.sl (l, k)).length := by omega
            have e0 : ((s.sl (l, k)).take j).map (movedTo (s.xk t)) ++ (s.sl (l, k)).drop j = (s.sl (l, k)).map (movedTo (s.xk t)) := by rw [hje]; simp
            rw [e0] at hR4
            have hjI : decide ((j : Int) < ((s.sl (l, k)).length : Int)) = false := by simp; omega
            go_wp2
            go_roundg ((s.ql t).length - (i + 1))
            case measure => omega
            case rel =>
              obtain ⟨hkk, htt⟩ := HK.out
              refine ⟨i + 1, upd sl' (l, k) ((s.sl (l, k)).map (movedTo (s.xk t))), by omega, by go_num, hR4, fun p hp => ?_, fun p hp => ?_, bM4, hC4⟩
              · by_cases e : p = (l, k)
                · rw [e, upd_same]
                · rw [upd_other _ _ e]
                  obtain ⟨p1, p2, p3, jj, hjj, hj2⟩ := hp
                  refine HD1.out p ⟨p1, p2, p3, jj, ?_, hj2⟩
                  by_cases ej : jj = i
                  · exfalso
                    subst ej
                    have el : p.1 = l := hj2.symm.trans HL0.out.1
                    have ek : p.2 = k := hI.thd l p.2 k hl (by rw [← el]; exact p2) hkk (by rw [htt, ← el]; exact p1)
                    exact e (by cases p; simp at el ek; simp [el, ek])
                  · omega
              · have e : p ≠ (l, k) := fun e => hp (by
                  rw [e]
                  exact ⟨htt, hkk, hl, i, by omega, HL0.out.1⟩)
                rw [upd_other _ _ e]
                exact HD2.out p fun ⟨p1, p2, p3, jj, hjj, hj2⟩ => hp ⟨p1, p2, p3, jj, by omega, hj2⟩
      · have hie : i = (s.ql t).length := by omega
        have hiI : decide ((i : Int) < ((s.ql t).length : Int)) = false := by simp; omega
        have hfin : CmpP s t v' sl' = Cmp s t v' := by
          have : sl' = fun p => if s.th p = t ∧ p.2 < s.hn p.1 ∧ p.1 ≤ 2 then (s.sl p).map (movedTo (s.xk t)) else s.sl p := by
            funext p
            by_cases hp : s.th p = t ∧ p.2 < s.hn p.1 ∧ p.1 ≤ 2
            · rw [if_pos hp]
              obtain ⟨p1, p2, p3⟩ := hp
              have := hI.kl p.1 p.2 p3 p2
              rw [show s.th (p.1, p.2) = t from p1] at this
              exact HD1.out p ⟨p1, p2, p3, s.pl (p.1, p.2), by omega, this.2⟩
            · rw [if_neg hp]
              exact HD2.out p fun ⟨p1, p2, p3, _⟩ => hp ⟨p1, p2, p3⟩
          unfold CmpP Cmp
          rw [this]
        rw [hfin] at hR
        go_wp2
        go_end0
        exact ⟨rfl, hC, .inr ⟨v', hR⟩⟩

#print axioms compact_rep
end Go.Proofs.Ybulkbzhm
