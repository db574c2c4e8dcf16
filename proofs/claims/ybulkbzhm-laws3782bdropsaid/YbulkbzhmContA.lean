/-
  What contest needs.
-/
import Derived.Test.YbulkbzhmPend
namespace Go.Proofs.Ybulkbzhm
set_option linter.unusedSectionVars false
variable [Base]
open Go.RowKit Go.Maps
open Go.WideShapes (add_plain)

/-- Fields that the invariant does not speak of. -/
theorem Inv.skip {N : Nat} {s s' : St} (h : Inv N s) (e1 : s'.hn = s.hn) (e2 : s'.th = s.th) (e3 : s'.pl = s.pl) (e4 : s'.sl = s.sl) (e5 : s'.pd = s.pd) (e6 : s'.ct = s.ct) (e7 : s'.xk = s.xk) (e8 : s'.ql = s.ql) (e9 : s'.pz = s.pz) (e10 : s'.ph = s.ph) (e11 : s'.xv 8 = s.xv 8) (e12 : s'.qv 5 = s.qv 5) : Inv N s' := by
  cases s'
  cases s
  simp at *
  subst e1 e2 e3 e4 e5 e6 e7 e8 e9 e10
  exact ⟨h.thr, h.thd, h.lk, h.kl, h.sin, h.snd, h.sdj, h.room, h.pin, h.pnd, h.pdj, h.cin, h.cct, h.kd, ⟨e12.trans h.b5.1, h.b5.2⟩, ⟨e11.trans h.b8.1, h.b8.2⟩, h.zx, h.zq, h.zh, h.zs, h.zp, h.zz⟩

/-- A lock becomes contested. -/
theorem Inv.contAdd {N : Nat} {s : St} (h : Inv N s) {l : Nat} (hl : l ≤ 2) (h0 : s.ct l = 0) (qv' : Nat → Value) (hq : qv' 5 = s.qv 5) : Inv (N + 1) { s with qv := qv', ql := upd s.ql 3 (s.ql 3 ++ [l]), ct := upd s.ct l ((s.ql 3).length + 1) } := by
  have hq3 : upd s.ql 3 (s.ql 3 ++ [l]) 3 = s.ql 3 ++ [l] := upd_same _ _ _
  have hqo : ∀ u, u ≠ 3 → upd s.ql 3 (s.ql 3 ++ [l]) u = s.ql u := fun u hu => upd_other _ _ hu
  refine ⟨h.thr, h.thd, fun t i ht hi => ?_, fun l' k hl' hk => ?_, h.sin, h.snd, h.sdj, h.room, h.pin, h.pnd, h.pdj, fun i hi => ?_, fun l' hl' hc => ?_, h.kd, ?_, h.b8, fun u hu => Nat.le_succ_of_le (h.zx u hu), fun u hu => ?_, fun u hu => Nat.le_succ_of_le (h.zh u hu), fun l' k' hl' => Nat.le_succ_of_le (h.zs l' k' hl'), fun l' k' hl' => Nat.le_succ_of_le (h.zp l' k' hl'), Nat.le_succ_of_le h.zz⟩
  · have hi' : i < (upd s.ql 3 (s.ql 3 ++ [l]) t).length := hi
    rw [hqo t (by omega)] at hi'
    show ∃ l' k, (upd s.ql 3 (s.ql 3 ++ [l]) t).getD i 0 = l' ∧ _
    rw [hqo t (by omega)]
    exact h.lk t i ht hi'
  · have := h.kl l' k hl' hk
    have ht := h.thr l' k hl' hk
    show s.pl (l', k) < (upd s.ql 3 (s.ql 3 ++ [l]) (s.th (l', k))).length ∧ (upd s.ql 3 (s.ql 3 ++ [l]) (s.th (l', k))).getD (s.pl (l', k)) 0 = l'
    rw [hqo _ (by omega)]
    exact this
  · have hi' : i < (upd s.ql 3 (s.ql 3 ++ [l]) 3).length := hi
    show (upd s.ql 3 (s.ql 3 ++ [l]) 3).getD i 0 ≤ 2 ∧ upd s.ct l ((s.ql 3).length + 1) ((upd s.ql 3 (s.ql 3 ++ [l]) 3).getD i 0) = i + 1
    rw [hq3] at hi' ⊢
    simp at hi'
    by_cases e : i = (s.ql 3).length
    · rw [e, getD_append_last, upd_same]
      exact ⟨hl, rfl⟩
    · have hlt : i < (s.ql 3).length := by omega
      obtain ⟨b1, b2⟩ := h.cin i hlt
      rw [getD_append_left hlt]
      refine ⟨b1, ?_⟩
      have hne : (s.ql 3).getD i 0 ≠ l := fun e2 => by
        rw [e2, h0] at b2
        omega
      rw [upd_other _ _ hne]
      exact b2
  · have hc' : upd s.ct l ((s.ql 3).length + 1) l' ≠ 0 := hc
    show upd s.ct l ((s.ql 3).length + 1) l' - 1 < (upd s.ql 3 (s.ql 3 ++ [l]) 3).length ∧ (upd s.ql 3 (s.ql 3 ++ [l]) 3).getD (upd s.ct l ((s.ql 3).length + 1) l' - 1) 0 = l'
    rw [hq3]
    by_cases e : l' = l
    · rw [e, upd_same]
      simp only [Nat.add_sub_cancel]
      exact ⟨by simp, getD_append_last _ _⟩
    · rw [upd_other _ _ e] at hc' ⊢
      obtain ⟨b1, b2⟩ := h.cct l' hl' hc'
      exact ⟨by simp; omega, by rw [getD_append_left b1]; exact b2⟩
  · show qv' 5 = nilS ∧ upd s.ql 3 (s.ql 3 ++ [l]) 5 = []
    rw [hqo 5 (by omega), hq]
    exact h.b5
  · show (upd s.ql 3 (s.ql 3 ++ [l]) u).length ≤ N + 1
    have := h.zq u hu
    by_cases e : u = 3
    · subst e
      rw [hq3]
      simp
      omega
    · rw [hqo u e]
      omega

/-- A slot turns contested. -/
theorem Inv.setKind {N : Nat} {s : St} (h : Inv N s) {t n : Nat} (hn : n < (s.xk t).length) : Inv N { s with xk := upd s.xk t ((s.xk t).set n 1) } := by
  have hx : ∀ u, (upd s.xk t ((s.xk t).set n 1) u).length = (s.xk u).length := fun u => by
    by_cases e : u = t
    · subst e
      rw [upd_same]
      simp
    · rw [upd_other _ _ e]
  have hg : ∀ u m, m < (s.xk u).length → (upd s.xk t ((s.xk t).set n 1) u).getD m 0 = (s.xk u).getD m 0 ∨ (upd s.xk t ((s.xk t).set n 1) u).getD m 0 = 1 := fun u m hm => by
    by_cases e : u = t
    · subst e
      rw [upd_same, getD_set]
      by_cases e2 : n = m ∧ m < (s.xk u).length
      · rw [if_pos e2]
        exact .inr rfl
      · rw [if_neg e2]
        exact .inl rfl
    · rw [upd_other _ _ e]
      exact .inl rfl
  refine ⟨h.thr, h.thd, h.lk, h.kl, fun l k m hl hk hm => ?_, h.snd, h.sdj, h.room, h.pin, h.pnd, h.pdj, h.cin, h.cct, fun u m hu hm => ?_, h.b5, ?_, fun u hu => ?_, h.zq, h.zh, h.zs, h.zp, h.zz⟩
  · obtain ⟨b1, b2⟩ := h.sin l k m hl hk hm
    show m < (upd s.xk t ((s.xk t).set n 1) (s.th (l, k))).length ∧ (upd s.xk t ((s.xk t).set n 1) (s.th (l, k))).getD m 0 ≠ 2
    rw [hx]
    refine ⟨b1, ?_⟩
    rcases hg _ m b1 with e | e
    · rw [e]; exact b2
    · rw [e]; omega
  · have hm' : m < (upd s.xk t ((s.xk t).set n 1) u).length := hm
    rw [hx] at hm'
    show (upd s.xk t ((s.xk t).set n 1) u).getD m 0 ≤ 2
    rcases hg u m hm' with e | e
    · rw [e]; exact h.kd u m hu hm'
    · rw [e]; omega
  · refine ⟨h.b8.1, ?_⟩
    show upd s.xk t ((s.xk t).set n 1) 8 = []
    have e8 : (8 : Nat) ≠ t := fun e => by
      subst e
      rw [h.b8.2] at hn
      simp at hn
    rw [upd_other _ _ e8]
    exact h.b8.2
  · show (upd s.xk t ((s.xk t).set n 1) u).length ≤ N
    rw [hx]
    exact h.zx u hu

/-- The first pending access of a hold goes, with its key. -/
theorem Inv.unpend {N : Nat} {s : St} (h : Inv N s) {l k a : Nat} {A : List Nat} (hl : l ≤ 2) (hk : k < s.hn l) (hpd : s.pd (l, k) = a :: A) :
    Inv N { s with pd := upd s.pd (l, k) A, pz := if s.ph (key a l) = true then s.pz - 1 else s.pz, ph := fun y => if y = key a l then false else s.ph y } := by
  have hnd := h.pnd l k hl hk
  rw [hpd] at hnd
  simp only [List.nodup_cons] at hnd
  have hsub : ∀ p m, m ∈ upd s.pd (l, k) A p → m ∈ s.pd p := fun p m hm => by
    by_cases e : p = (l, k)
    · subst e
      rw [upd_same] at hm
      rw [hpd]
      simp [hm]
    · rwa [upd_other _ _ e] at hm
  refine ⟨h.thr, h.thd, h.lk, h.kl, h.sin, h.snd, h.sdj, fun l' k' hl' hk' => ?_, fun l' k' m hl' hk' hm => ?_, fun l' k' hl' hk' => ?_, fun l' k1 k2 m hl' hk1 hk2 hm1 hm2 => h.pdj l' k1 k2 m hl' hk1 hk2 (hsub _ _ hm1) (hsub _ _ hm2), h.cin, h.cct, h.kd, h.b5, h.b8, h.zx, h.zq, h.zh, h.zs, fun l' k' hl' => ?_, ?_⟩
  · have e : (l', k') ≠ (l, k) := fun e => by
      simp at e
      obtain ⟨rfl, rfl⟩ := e
      have : s.hn l' ≤ k' := hk'
      omega
    show _ ∧ upd s.pd (l, k) A (l', k') = []
    rw [upd_other _ _ e]
    exact h.room l' k' hl' hk'
  · obtain ⟨b1, b2⟩ := h.pin l' k' m hl' hk' (hsub _ _ hm)
    refine ⟨b1, ?_⟩
    show (if key m l' = key a l then false else s.ph (key m l')) = true
    rw [if_neg]
    · exact b2
    · intro e
      obtain ⟨rfl, rfl⟩ := key_inj hl' hl e
      have hmem : m ∈ s.pd (l', k) := by rw [hpd]; simp
      have hkk := h.pdj l' k' k m hl' hk' hk (hsub _ _ hm) hmem
      subst hkk
      have hm' : m ∈ upd s.pd (l', k') A (l', k') := hm
      rw [upd_same] at hm'
      exact hnd.1 hm'
  · show (upd s.pd (l, k) A (l', k')).Nodup
    by_cases e : (l', k') = (l, k)
    · rw [e, upd_same]
      exact hnd.2
    · rw [upd_other _ _ e]
      exact h.pnd l' k' hl' hk'
  · show (upd s.pd (l, k) A (l', k')).length ≤ N
    by_cases e : (l', k') = (l, k)
    · rw [e, upd_same]
      have := h.zp l k hl
      rw [hpd] at this
      simp at this
      omega
    · rw [upd_other _ _ e]
      exact h.zp l' k' hl'
  · show (if s.ph (key a l) = true then s.pz - 1 else s.pz) ≤ N
    have := h.zz
    by_cases e : s.ph (key a l) = true
    · rw [if_pos e]; omega
    · rw [if_neg e]; omega

section
variable {w w1 : World} {s : St}

/-- d.contested.add(l). -/
theorem Rep.contAdd (h : Rep w s) {l : Nat} (o : Obj) {v' : Value} (ha : Appended (w.alloc o) w1 3 1 (s.qv 3) v' (s.ql 3).length (fun _ => .int .i64 (l : Int))) :
    Rep (w1.setCell ⟨s.D, 7, none⟩ v') { s with qv := upd s.qv 3 v', ql := upd s.ql 3 (s.ql 3 ++ [l]) } ∧ Ch (fun e => e = 3 ∨ e = 56) w (w1.setCell ⟨s.D, 7, none⟩ v') := by
  obtain ⟨r1, r2, r3⟩ := h.qAppend 3 l o ha
  obtain ⟨dv, b, sg, st, d7, d8⟩ := h.d.ch r3 (by decide) (by decide) (by decide)
  have p2 : Ch (fun e => e = 56) w1 (w1.setCell ⟨s.D, 7, none⟩ v') := (Ch.refl (fun e => e = 56) w1).setCell b rfl _ _
  have hq : ∀ t, t ≤ 2 → upd s.qv 3 v' t = s.qv t := fun t ht => upd_other _ _ (by omega)
  refine ⟨⟨⟨_, b.set 7 v', by simpa using sg.ch p2 (by decide), by simpa using st.ch p2 (by decide), by simp [upd], by simpa using d8⟩, (h.lock.ch r3 (by decide)).ch p2 (by decide), ?_, (h.holds.ch r3 (by decide)).ch p2 (by decide), h.room, LRows.chL (LRows.chL h.slots r3 (by decide)) p2 (by decide), LRows.chL (LRows.chL h.pends r3 (by decide)) p2 (by decide), LRows.chL r1 p2 (by decide), r2.ch p2 (by decide), (h.map.ch r3 (by decide)).ch p2 (by decide)⟩, (r3.mono fun e he => .inl he).trans (p2.mono fun e he => .inr he)⟩
  have ht := (h.thr.ch r3 (by decide) (by decide) (by decide)).ch p2 (by decide) (by decide) (by decide)
  rcases ht with ⟨a1, a2, a3⟩ | ⟨TS, a1, tc, lv, hq', hbig, hhigh⟩
  · exact .inl ⟨a1, a2, fun t ht => (hq t ht).trans (a3 t ht)⟩
  · refine .inr ⟨TS, a1, tc, lv, ⟨hq'.blk, fun u hu => ?_, hq'.rows⟩, hbig, hhigh⟩
    have := hq'.one u hu
    rw [← hq u hu] at this
    exact this

/-- ld.contested = v. -/
theorem Rep.setCt (h : Rep w s) {LS l : Nat} (hL : s.L = some LS) (hl : l ≤ 2) (v : Nat) : Rep (w.setCell ⟨LS, l * 4 + 1, none⟩ (.int .i64 (v : Int))) { s with ct := upd s.ct l v } ∧ Ch (fun e => e = 93) w (w.setCell ⟨LS, l * 4 + 1, none⟩ (.int .i64 (v : Int))) := by
  have hlock := h.lock
  rw [hL] at hlock
  obtain ⟨p1, hc⟩ := hlock.setCt hl v
  exact ⟨⟨h.d.ch hc (by decide) (by decide) (by decide), by show LockP _ s.L _ _; rw [hL]; exact p1, h.thr.ch hc (by decide) (by decide) (by decide), h.holds.ch hc (by decide), h.room, LRows.chL h.slots hc (by decide), LRows.chL h.pends hc (by decide), LRows.chL h.locks hc (by decide), h.calls.ch hc (by decide), h.map.ch hc (by decide)⟩, hc⟩

/-- *calls = v. -/
theorem Rep.setCalls (h : Rep w s) (v : Int) : Rep (w.setCell ⟨s.cb, 0, none⟩ (.int .i64 v)) s ∧ Ch (fun e => e = 3) w (w.setCell ⟨s.cb, 0, none⟩ (.int .i64 v)) := by
  obtain ⟨⟨a, hb⟩, hown⟩ := h.calls
  have hc : Ch (fun e => e = 3) w (w.setCell ⟨s.cb, 0, none⟩ (.int .i64 v)) := (Ch.refl (fun e => e = 3) w).setCell hb rfl _ _
  refine ⟨⟨h.d.ch hc (by decide) (by decide) (by decide), h.lock.ch hc (by decide), h.thr.ch hc (by decide) (by decide) (by decide), h.holds.ch hc (by decide), h.room, LRows.chL h.slots hc (by decide), LRows.chL h.pends hc (by decide), ⟨fun i => ?_, h.locks.own⟩, ⟨⟨v, (hb.set 0 (.int .i64 v)).congr fun j hj => ?_⟩, hown⟩, h.map.ch hc (by decide)⟩, hc⟩
  · exact (h.locks.row i).of_block fun g hg => heap_setCell_other _ _ _ _ fun e => hown i (by rw [hg]; simp at e; rw [e])
  · have : j = 0 := by omega
    simp [this]

/-- h.pending = h.pending[:0]. -/
theorem Rep.cutPend (h : Rep w s) {l k g cp : Nat} {a : Option Addr} (hv : s.hv l = .slice (some ⟨g, 0, none⟩) (s.hn l) (s.hc l)) (hk : k < s.hc l) (hpv : s.pv (l, k) = .slice a (s.pd (l, k)).length cp) :
    Rep (w.setCell ⟨g, k * 4 + 3, none⟩ (.slice a 0 cp)) { s with pv := upd s.pv (l, k) (.slice a 0 cp), pd := upd s.pd (l, k) [] } ∧ Ch (fun e => e = 66) w (w.setCell ⟨g, k * 4 + 3, none⟩ (.slice a 0 cp)) := by
  have hrow : LRow w 63 .u32 (.slice a 0 cp) [] := by
    have := h.pends.row (l, k)
    rw [hpv] at this
    have := this.takeA (Nat.zero_le _)
    simpa using this
  have hs1 : LRows w 63 .u32 (upd s.pv (l, k) (.slice a 0 cp)) (upd s.pd (l, k) []) := Fam.turn h.pends (LRow.loc 63 .u32) (l, k) hrow (fun _ _ _ => rfl) (fun g' hg' => .inl (by rw [hpv]; cases a <;> exact hg'))
  obtain ⟨q1, q2⟩ := h.holds.setPv hv k (.slice a 0 cp)
  refine ⟨⟨h.d.ch q2 (by decide) (by decide) (by decide), h.lock.ch q2 (by decide), h.thr.ch q2 (by decide) (by decide) (by decide), q1, fun l' k' hk' => ?_, LRows.chL h.slots q2 (by decide), LRows.chL hs1 q2 (by decide), LRows.chL h.locks q2 (by decide), h.calls.ch q2 (by decide), h.map.ch q2 (by decide)⟩, q2⟩
  have hne : (l', k') ≠ (l, k) := fun e => by
    simp at e
    obtain ⟨rfl, rfl⟩ := e
    have : s.hc l' ≤ k' := hk'
    omega
  show _ ∧ upd s.pv (l, k) _ (l', k') = nilS
  rw [upd_other _ _ hne]
  exact h.room l' k' hk'

end

set_option maxRecDepth 100000 in
theorem give_rep {w : World} {s : St} (h : Rep w s) (G a : Nat) (hG : w.cell? ⟨G, 0, none⟩ = some (.pointer (some ⟨s.cb, 0, none⟩))) (lG : G < w.heap.size) :
    Calls Yba.prog 15 #[.int .u32 (a : Int), .agg #[.int .i64 0, .int .u64 0, .pointer none], .pointer (some ⟨G, 0, none⟩)] w fun e w' => e = .returned (.tuple #[]) ∧ Rep w' s ∧ Ch (fun e => e = 3) w w' := by
  obtain ⟨⟨v, hb⟩, -⟩ := h.calls
  have hq := hb.cell (i := 0) (by omega)
  have zq := hb.frozen
  have lc := hb.lt
  obtain ⟨r1, r2⟩ := h.setCalls (wrap64 (v + 1))
  go_enter Yba.func15, Yba.ntmps15
  go_wp2_with fail
  go_region
  all_goals refine ?main
  go_wp2
  go_end0
  exact ⟨rfl, (r1.alloc _).drew, (r2.alloc _).drew⟩

#print axioms give_rep
end Go.Proofs.Ybulkbzhm
