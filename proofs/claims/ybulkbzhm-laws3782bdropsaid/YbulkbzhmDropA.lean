/-
  What dropNested needs of the memory.
-/
import Derived.Test.YbulkbzhmIndex
import Derived.Test.YbulkbzhmPureD
import Derived.Test.YbulkbzhmBack
namespace Go.Proofs.Ybulkbzhm
set_option linter.unusedSectionVars false
variable [Base]
open Go.RowKit Go.Maps
open Go.WideShapes (add_plain)

theorem Ch.put {w : World} {l : Nat} {o : Obj} (hlow : Base.n ≤ l) (h : w.heap[l]? = some o) (hk : kindOf o = 998) (o' : Obj) : Ch (fun e => e = 998) w (w.putObj l o') := by
  refine ⟨rfl, rfl, rfl, by simp [World.putObj], fun g o2 h2 hn => ?_, fun g o2 hg h2 => (World.putObj_heap_other (by omega)).trans h2⟩
  have : g ≠ l := fun e => by
    subst e
    rw [h] at h2
    simp at h2
    subst h2
    exact hn hk
  exact (World.putObj_heap_other this).trans h2

theorem Rep.put {w : World} {s : St} (h : Rep w s) {l : Nat} {o : Obj} (hlow : Base.n ≤ l) (hl : w.heap[l]? = some o) (hk : kindOf o = 998) (o' : Obj) : Rep (w.putObj l o') s :=
  h.ch (Ch.put hlow hl hk o') fun e he => by subst he; decide

section
variable {w : World} {s : St}

/-- x.locks.remove(p). -/
theorem Rep.locksRemove (h : Rep w s) {TS : Nat} (hT : s.T = some TS) {t p g n cap : Nat} (ht : t ≤ 2) (hq : s.qv t = .slice (some ⟨g, 0, none⟩) (n + 1) cap) (hn : (s.ql t).length = n + 1) :
    Rep ((w.setCell ⟨g, p, none⟩ (.int .i64 (((s.ql t).getD n 0 : Nat) : Int))).setCell ⟨TS, t * 8 + 5, none⟩ (.slice (some ⟨g, 0, none⟩) n cap)) { s with qv := upd s.qv t (.slice (some ⟨g, 0, none⟩) n cap), ql := upd s.ql t (cutAt (s.ql t) p) } ∧
      Ch (fun e => e = 3 ∨ e = 104) w ((w.setCell ⟨g, p, none⟩ (.int .i64 (((s.ql t).getD n 0 : Nat) : Int))).setCell ⟨TS, t * 8 + 5, none⟩ (.slice (some ⟨g, 0, none⟩) n cap)) := by
  obtain ⟨sz, c, hb⟩ := (LRow.loc 3 .i64).typed (h.locks.row t) (g := g) (by rw [hq]; rfl)
  have r3 : Ch (fun e => e = 3) w (w.setCell ⟨g, p, none⟩ (.int .i64 (((s.ql t).getD n 0 : Nat) : Int))) := (Ch.refl (fun e => e = 3) w).setCell hb rfl _ _
  have r1 := LRows.set h.locks t hq p ((s.ql t).getD n 0)
  have r2 := LRows.take r1 t hq (m := n) (by rw [upd_same]; simp; omega)
  rw [upd_upd, upd_same] at r2
  have ecut : ((s.ql t).set p ((s.ql t).getD n 0)).take n = cutAt (s.ql t) p := by
    unfold cutAt
    rw [hn]
    rfl
  rw [ecut] at r2
  have hP := (h.thrP hT).ch r3 (by decide) (by decide) (by decide)
  obtain ⟨p1, p2⟩ := hP.setQ ht (.slice (some ⟨g, 0, none⟩) n cap)
  have hq3 : upd s.qv t (.slice (some ⟨g, 0, none⟩) n cap) 3 = s.qv 3 := upd_other _ _ (by omega)
  obtain ⟨⟨ac, hcb⟩, hown⟩ := h.calls
  have hcg : s.cb ≠ g := fun e => hown t (by rw [hq, e]; rfl)
  have hcall : CallP (w.setCell ⟨g, p, none⟩ (.int .i64 (((s.ql t).getD n 0 : Nat) : Int))) s.cb (upd s.qv t (.slice (some ⟨g, 0, none⟩) n cap)) := by
    refine ⟨⟨ac, hcb.set_other (a := ⟨g, p, none⟩) hcg _⟩, fun i hi => ?_⟩
    by_cases e : i = t
    · subst e
      rw [upd_same] at hi
      exact hown i (by rw [hq]; exact hi)
    · rw [upd_other _ _ e] at hi
      exact hown i hi
  refine ⟨⟨by
    show DP _ s.D s.L s.T (upd s.qv t _ 3) s.pm
    rw [hq3]
    exact (h.d.ch r3 (by decide) (by decide) (by decide)).ch p2 (by decide) (by decide) (by decide), (h.lock.ch r3 (by decide)).ch p2 (by decide), .inr ⟨TS, hT, p1⟩, (h.holds.ch r3 (by decide)).ch p2 (by decide), h.room, LRows.chL (LRows.chL h.slots r3 (by decide)) p2 (by decide), LRows.chL (LRows.chL h.pends r3 (by decide)) p2 (by decide), LRows.chL r2 p2 (by decide), hcall.ch p2 (by decide), (h.map.ch r3 (by decide)).ch p2 (by decide)⟩, (r3.mono fun e he => .inl he).trans (p2.mono fun e he => .inr he)⟩

/-- d.contested.remove(p). -/
theorem Rep.contRemove (h : Rep w s) {p g n cap : Nat} (hq : s.qv 3 = .slice (some ⟨g, 0, none⟩) (n + 1) cap) (hn : (s.ql 3).length = n + 1) :
    Rep ((w.setCell ⟨g, p, none⟩ (.int .i64 (((s.ql 3).getD n 0 : Nat) : Int))).setCell ⟨s.D, 7, none⟩ (.slice (some ⟨g, 0, none⟩) n cap)) { s with qv := upd s.qv 3 (.slice (some ⟨g, 0, none⟩) n cap), ql := upd s.ql 3 (cutAt (s.ql 3) p) } ∧
      Ch (fun e => e = 3 ∨ e = 56) w ((w.setCell ⟨g, p, none⟩ (.int .i64 (((s.ql 3).getD n 0 : Nat) : Int))).setCell ⟨s.D, 7, none⟩ (.slice (some ⟨g, 0, none⟩) n cap)) := by
  obtain ⟨sz, c, hb⟩ := (LRow.loc 3 .i64).typed (h.locks.row 3) (g := g) (by rw [hq]; rfl)
  have r3 : Ch (fun e => e = 3) w (w.setCell ⟨g, p, none⟩ (.int .i64 (((s.ql 3).getD n 0 : Nat) : Int))) := (Ch.refl (fun e => e = 3) w).setCell hb rfl _ _
  have r1 := LRows.set h.locks 3 hq p ((s.ql 3).getD n 0)
  have r2 := LRows.take r1 3 hq (m := n) (by rw [upd_same]; simp; omega)
  rw [upd_upd, upd_same] at r2
  have ecut : ((s.ql 3).set p ((s.ql 3).getD n 0)).take n = cutAt (s.ql 3) p := by
    unfold cutAt
    rw [hn]
    rfl
  rw [ecut] at r2
  obtain ⟨dv, b, sg, st, d7, d8⟩ := h.d.ch r3 (by decide) (by decide) (by decide)
  have p2 : Ch (fun e => e = 56) (w.setCell ⟨g, p, none⟩ (.int .i64 (((s.ql 3).getD n 0 : Nat) : Int))) ((w.setCell ⟨g, p, none⟩ (.int .i64 (((s.ql 3).getD n 0 : Nat) : Int))).setCell ⟨s.D, 7, none⟩ (.slice (some ⟨g, 0, none⟩) n cap)) := (Ch.refl (fun e => e = 56) _).setCell b rfl _ _
  have hqq : ∀ t, t ≤ 2 → upd s.qv 3 (.slice (some ⟨g, 0, none⟩) n cap) t = s.qv t := fun t ht => upd_other _ _ (by omega)
  obtain ⟨⟨ac, hcb⟩, hown⟩ := h.calls
  have hcg : s.cb ≠ g := fun e => hown 3 (by rw [hq, e]; rfl)
  have hcall : CallP (w.setCell ⟨g, p, none⟩ (.int .i64 (((s.ql 3).getD n 0 : Nat) : Int))) s.cb (upd s.qv 3 (.slice (some ⟨g, 0, none⟩) n cap)) := by
    refine ⟨⟨ac, hcb.set_other (a := ⟨g, p, none⟩) hcg _⟩, fun i hi => ?_⟩
    by_cases e : i = 3
    · subst e
      rw [upd_same] at hi
      exact hown 3 (by rw [hq]; exact hi)
    · rw [upd_other _ _ e] at hi
      exact hown i hi
  refine ⟨⟨⟨_, b.set 7 _, by simpa using sg.ch p2 (by decide), by simpa using st.ch p2 (by decide), by simp [upd], by simpa using d8⟩, (h.lock.ch r3 (by decide)).ch p2 (by decide), ?_, (h.holds.ch r3 (by decide)).ch p2 (by decide), h.room, LRows.chL (LRows.chL h.slots r3 (by decide)) p2 (by decide), LRows.chL (LRows.chL h.pends r3 (by decide)) p2 (by decide), LRows.chL r2 p2 (by decide), hcall.ch p2 (by decide), (h.map.ch r3 (by decide)).ch p2 (by decide)⟩, (r3.mono fun e he => .inl he).trans (p2.mono fun e he => .inr he)⟩
  have htt := (h.thr.ch r3 (by decide) (by decide) (by decide)).ch p2 (by decide) (by decide) (by decide)
  rcases htt with ⟨a1, a2, a3⟩ | ⟨TS, a1, tc, lv, hq', hbig, hhigh⟩
  · exact .inl ⟨a1, a2, fun t ht => (hqq t ht).trans (a3 t ht)⟩
  · refine .inr ⟨TS, a1, tc, lv, ⟨hq'.blk, fun u hu => ?_, hq'.rows⟩, hbig, hhigh⟩
    have := hq'.one u hu
    rw [← hqq u hu] at this
    exact this

end

/-- Two rows change places; then the second is cut to nothing. -/
def swap {α : Type} (f : Nat × Nat → α) (p q : Nat × Nat) (z : α) : Nat × Nat → α := upd (upd f p (f q)) q z

theorem LRows.swap {w : World} {e : TypeId} {q : IntKind} {v : Nat × Nat → Value} {L : Nat × Nat → List Nat} (h : LRows w e q v L) (p r : Nat × Nat) {a : Option Addr} {n c : Nat} (hv : v p = .slice a n c) : LRows w e q (Ybulkbzhm.swap v p r (.slice a 0 c)) (Ybulkbzhm.swap L p r []) := by
  have hr : LRows w e q (fun x => v (if x = p then r else if x = r then p else x)) (fun x => L (if x = p then r else if x = r then p else x)) := Fam.rename h (fun x => if x = p then r else if x = r then p else x) (fun x y hxy => by
    have inv : ∀ x : Nat × Nat, (if (if x = p then r else if x = r then p else x) = p then r else if (if x = p then r else if x = r then p else x) = r then p else (if x = p then r else if x = r then p else x)) = x := fun x => by
      by_cases h1 : x = p
      · rw [if_pos h1]
        by_cases h2 : r = p
        · rw [if_pos h2, h2, h1]
        · rw [if_neg h2, if_pos rfl, h1]
      · rw [if_neg h1]
        by_cases h2 : x = r
        · rw [if_pos h2, if_pos rfl, h2]
        · rw [if_neg h2, if_neg h1, if_neg h2]
    have h1 := inv x
    have h2 := inv y
    rw [hxy] at h1
    exact h1.symm.trans h2)
  have hrow : LRow w e q (.slice a 0 c) [] := by
    have := h.row p
    rw [hv] at this
    simpa using this.takeA (Nat.zero_le _)
  have e0 : (if r = p then r else if r = r then p else r) = p := by
    by_cases h5 : r = p
    · rw [if_pos h5, h5]
    · rw [if_neg h5, if_pos rfl]
  have := Fam.turn (w' := w) hr (LRow.loc e q) r (v' := .slice a 0 c) (L' := []) hrow (fun _ _ _ => rfl) (fun g' hg' => .inl (by
    show (v (if r = p then r else if r = r then p else r)).ownBlock = some g'
    rw [e0, hv]
    cases a <;> exact hg'))
  have f1 : ∀ {β : Type} (f : Nat × Nat → β) (z : β), upd (fun x => f (if x = p then r else if x = r then p else x)) r z = Ybulkbzhm.swap f p r z := fun f z => by
    funext x
    unfold Ybulkbzhm.swap
    by_cases h1 : x = r
    · rw [h1, upd_same, upd_same]
    · rw [upd_other _ _ h1, upd_other _ _ h1]
      by_cases h2 : x = p
      · rw [h2, upd_same, if_pos rfl]
      · rw [upd_other _ _ h2, if_neg h2, if_neg h1]
  rw [f1, f1] at this
  exact this

/-- The hold leaves the list of holds. -/
def Gone (s : St) (l k g c1 c2 : Nat) (a1 a2 : Option Addr) : St :=
  { s with hv := upd s.hv l (.slice (some ⟨g, 0, none⟩) (s.hn l - 1) (s.hc l)), hn := upd s.hn l (s.hn l - 1), th := swap s.th (l, k) (l, s.hn l - 1) 0, pl := swap s.pl (l, k) (l, s.hn l - 1) 0,
           sv := swap s.sv (l, k) (l, s.hn l - 1) (.slice a1 0 c1), sl := swap s.sl (l, k) (l, s.hn l - 1) [], pv := swap s.pv (l, k) (l, s.hn l - 1) (.slice a2 0 c2), pd := swap s.pd (l, k) (l, s.hn l - 1) [] }

theorem Rep.gone {w w8 : World} {s : St} (h : Rep w s) {LS l k g n1 c1 n2 c2 : Nat} {a1 a2 : Option Addr} (hL : s.L = some LS) (hl : l ≤ 2) (hk : k < s.hn l) (hv : s.hv l = .slice (some ⟨g, 0, none⟩) (s.hn l) (s.hc l)) (hsv : s.sv (l, k) = .slice a1 n1 c1) (hpv : s.pv (l, k) = .slice a2 n2 c2)
    (hc : Ch (fun e => e = 66) w w8) (hH : HoldP w8 s.hv s.hn s.hc (swap s.th (l, k) (l, s.hn l - 1) 0) (swap s.pl (l, k) (l, s.hn l - 1) 0) (swap s.sv (l, k) (l, s.hn l - 1) (.slice a1 0 c1)) (swap s.pv (l, k) (l, s.hn l - 1) (.slice a2 0 c2))) :
    Rep (w8.setCell ⟨LS, l * 4, none⟩ (.slice (some ⟨g, 0, none⟩) (s.hn l - 1) (s.hc l))) (Gone s l k g c1 c2 a1 a2) ∧ Ch (fun e => e = 66 ∨ e = 93) w (w8.setCell ⟨LS, l * 4, none⟩ (.slice (some ⟨g, 0, none⟩) (s.hn l - 1) (s.hc l))) := by
  have hlock := h.lock.ch hc (by decide)
  rw [hL] at hlock
  obtain ⟨p1, p2⟩ := hlock.setHv hl (.slice (some ⟨g, 0, none⟩) (s.hn l - 1) (s.hc l))
  have hnc : s.hn l ≤ s.hc l := (h.holds.val l).2.1
  have q1 := (hH.len hv (m := s.hn l - 1) (by omega)).ch p2 (by decide)
  have hs := LRows.chL (LRows.chL (LRows.swap h.slots (l, k) (l, s.hn l - 1) hsv) hc (by decide)) p2 (by decide)
  have hp := LRows.chL (LRows.chL (LRows.swap h.pends (l, k) (l, s.hn l - 1) hpv) hc (by decide)) p2 (by decide)
  refine ⟨⟨(h.d.ch hc (by decide) (by decide) (by decide)).ch p2 (by decide) (by decide) (by decide), by show LockP _ s.L _ _; rw [hL]; exact p1, (h.thr.ch hc (by decide) (by decide) (by decide)).ch p2 (by decide) (by decide) (by decide), q1, fun l' k' hk' => ?_, hs, hp, LRows.chL (LRows.chL h.locks hc (by decide)) p2 (by decide), (h.calls.ch hc (by decide)).ch p2 (by decide), (h.map.ch hc (by decide)).ch p2 (by decide)⟩, (hc.mono fun e he => .inl he).trans (p2.mono fun e he => .inr he)⟩
  have hk2 : s.hc l' ≤ k' := hk'
  have n1 : (l', k') ≠ (l, k) := fun e => by
    simp at e
    obtain ⟨rfl, rfl⟩ := e
    omega
  have n2 : (l', k') ≠ (l, s.hn l - 1) := fun e => by
    simp at e
    obtain ⟨rfl, rfl⟩ := e
    omega
  have f1 : ∀ {β : Type} (f : Nat × Nat → β) (z : β), swap f (l, k) (l, s.hn l - 1) z (l', k') = f (l', k') := fun f z => by
    unfold swap
    rw [upd_other _ _ n2, upd_other _ _ n1]
  show swap s.sv (l, k) (l, s.hn l - 1) _ (l', k') = nilS ∧ swap s.pv (l, k) (l, s.hn l - 1) _ (l', k') = nilS
  rw [f1, f1]
  exact h.room l' k' hk2

#print axioms Rep.gone
end Go.Proofs.Ybulkbzhm
