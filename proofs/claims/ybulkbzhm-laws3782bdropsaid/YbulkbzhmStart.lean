/-
  startHold.
-/
import Derived.Test.YbulkbzhmStep
namespace Go.Proofs.Ybulkbzhm
set_option linter.unusedSectionVars false
variable [Base]
open Go.RowKit Go.Maps
open Go.WideShapes (add_plain)

def Es (e : TypeId) : Prop := e = 93 ∨ e = 66

/-- What startHold leaves. -/
def Started (s : St) (l t g c : Nat) (th' pl' : Nat × Nat → Nat) : St := { s with hv := upd s.hv l (.slice (some ⟨g, 0, none⟩) (s.hn l + 1) c), hn := upd s.hn l (s.hn l + 1), hc := upd s.hc l c, th := upd th' (l, s.hn l) t, pl := pl' }

theorem zH_new (w : World) : ∀ j, j < 4 → (w.alloc (.cells #[.int .i64 0, .int .i64 0, nilS, nilS] 66)).cell? ((⟨w.heap.size, 0, none⟩ : Addr).add j) = some (zH j) := by
  intro j hj
  have : j = 0 ∨ j = 1 ∨ j = 2 ∨ j = 3 := by omega
  rcases this with rfl | rfl | rfl | rfl <;> simp [add_plain, zH]

theorem HoldP.append {w : World} {hv : Nat → Value} {hn hc : Nat → Nat} {th pl : Nat × Nat → Nat} {sv pv : Nat × Nat → Value} {l : Nat} (h : HoldP w hv hn hc th pl sv pv) (hB : Base.n ≤ w.heap.size) (hfull : hn l = hc l) (hroom : ∀ k, hc l ≤ k → sv (l, k) = nilS ∧ pv (l, k) = nilS) (hsmall : hn l ≤ 10000) (a : Addr) (cc : Nat) (ha : ∀ j, j < 4 → w.cell? (a.add j) = some (zH j)) :
    ∃ cap w', (∀ ty, (Builtin.append_ #[90, 90] ty #[hv l, .slice (some a) 1 cc]).run Yba.prog w = .ok (.slice (some ⟨w.heap.size, 0, none⟩) (hn l + 1) cap) w') ∧ hn l + 1 ≤ cap ∧ Ch (fun _ => False) w w' ∧
      HoldP w' (upd hv l (.slice (some ⟨w.heap.size, 0, none⟩) (hn l + 1) cap)) (upd hn l (hn l + 1)) (upd hc l cap) (fun p => if p.1 = l ∧ hn l ≤ p.2 then 0 else th p) (fun p => if p.1 = l ∧ hn l ≤ p.2 then 0 else pl p) sv pv := by
  obtain ⟨hx, f, hcl⟩ := h
  have hv' : (hv l = nilS ∧ hn l = 0) ∨ ∃ g, hv l = .slice (some ⟨g, 0, none⟩) (hn l) (hn l) ∧ Blk w g 66 (hn l * 4) (hx l) := by
    rcases f.row l with ⟨a0, a1, _⟩ | ⟨g, a0, a1, a2, a3⟩
    · exact .inl ⟨a0, a1⟩
    · simp only at a0 a3
      rw [← hfull] at a0 a3
      exact .inr ⟨g, a0, a3⟩
  obtain ⟨cap, w', hr, h1, h2, h3, h4⟩ := run_append66 w hB (hv l) (hn l) (hx l) hv' (by omega) a cc ha
  refine ⟨cap, w', hr, h1, (Ch.refl _ w).grown (v := nilS) h3 (fun g hg => by simp [Value.ownBlock] at hg), fun m => if m = l then (fun j => if j < hn l * 4 then hx l j else zH j) else hx m, ?_, fun m k hk => ?_⟩
  · have f2 := f.turn (w' := w') HRow.loc l (v' := .slice (some ⟨w.heap.size, 0, none⟩) (hn l + 1) cap) (L' := (hn l + 1, cap, fun j => if j < hn l * 4 then hx l j else zH j)) (.inr ⟨w.heap.size, rfl, h1, h2, h4⟩) (fun g hg _ => h3.block g hg (by simp)) (fun g hg => .inr (by simp [Value.ownBlock] at hg; omega))
    refine ⟨fun m => ?_, f2.own⟩
    have := f2.row m
    by_cases e : m = l
    · subst e
      simpa [upd] using this
    · simpa [upd, e] using this
  · by_cases e : m = l
    · subst e
      simp only [if_true]
      by_cases hk2 : k < hn m
      · obtain ⟨c0, c1, c2, c3⟩ := hcl m k (by omega)
        have n1 : ¬ (True ∧ hn m ≤ k) := by omega
        rw [if_neg n1, if_neg n1]
        exact ⟨(if_pos (by omega)).trans c0, (if_pos (by omega)).trans c1, (if_pos (by omega)).trans c2, (if_pos (by omega)).trans c3⟩
      · have n1 : m = m ∧ hn m ≤ k := ⟨rfl, by omega⟩
        simp only [n1, and_self, if_true]
        obtain ⟨r1, r2⟩ := hroom k (by omega)
        have z0 : k * 4 % 4 = 0 := by omega
        have z1 : (k * 4 + 1) % 4 = 1 := by omega
        have z2 : (k * 4 + 2) % 4 = 2 := by omega
        have z3 : (k * 4 + 3) % 4 = 3 := by omega
        refine ⟨(if_neg (by omega)).trans (by simp [zH, z0]), (if_neg (by omega)).trans (by simp [zH, z1]), (if_neg (by omega)).trans (by simp [zH, z2, r1]), (if_neg (by omega)).trans (by simp [zH, z3, r2])⟩
    · have hk' : k < hc m := by simpa [upd, e] using hk
      have n1 : ¬ (m = l ∧ hn l ≤ k) := fun h => e h.1
      show HC _ k (if m = l ∧ hn l ≤ k then 0 else th (m, k)) (if m = l ∧ hn l ≤ k then 0 else pl (m, k)) _ _
      rw [if_neg n1, if_neg n1]
      simp only [e, if_false]
      exact hcl m k hk'

attribute [-go_sem] Builtin.append_ in
set_option maxRecDepth 100000 in
set_option maxHeartbeats 1000000 in
theorem startHold_rep {w : World} {s : St} (h : Rep w s) {LS l : Nat} (hL : s.L = some LS) (hl : l ≤ 2) (hn : s.hn l ≤ 10000) (t : Nat) :
    Calls Yba.prog 27 #[.pointer (some ⟨LS, l * 4, none⟩), .int .i64 (t : Int)] w fun e w' => ∃ g c th' pl', e = .returned (.pointer (some ⟨g, s.hn l * 4, none⟩)) ∧ s.hn l < c ∧ s.hc l ≤ c ∧ (∀ p : Nat × Nat, p.1 ≠ l ∨ p.2 < s.hn l → th' p = s.th p ∧ pl' p = s.pl p) ∧ Rep w' (Started s l t g c th' pl') ∧ Ch Es w w' := by
  obtain ⟨lc, b0, b1, b2, b3⟩ := h.ld hL hl
  have hlock := h.lock
  rw [hL] at hlock
  obtain ⟨⟨a, hv⟩, hnc, hm⟩ := h.holds.val l
  rw [hv] at b1
  have hnI : (s.hn l : Int) ≤ 10000 := by omega
  have hcI : (s.hc l : Int) ≤ 9223372036854775807 := by have := maxLen_int; omega
  by_cases hr : s.hn l < s.hc l
  · obtain ⟨g, c, g0, g1, g2, g3, g4, g5, g6⟩ := h.holds.at (l := l) (k := s.hn l) hr
    have hv0 := g0
    rw [hv] at g0
    simp at g0
    subst g0
    have hrI : (s.hn l : Int) < (s.hc l : Int) := by omega
    have hLg : LS ≠ g := b0.ne g1 (by decide)
    have hgL : g ≠ LS := fun h => hLg h.symm
    obtain ⟨p1, e1⟩ := hlock.setHv hl (.slice (some ⟨g, 0, none⟩) (s.hn l + 1) (s.hc l))
    have q1 := (h.holds.len hv0 (m := s.hn l + 1) (by omega)).ch e1 (by decide)
    obtain ⟨p2, e2⟩ := q1.setTh (l := l) (g := g) (n := s.hn l + 1) (c := s.hc l) (by simp [upd]) (s.hn l) t
    have eC : Ch Es w _ := (e1.mono fun e he => .inl he).trans (e2.mono fun e he => .inr he)
    have hs : Rep _ (Started s l t g (s.hc l) s.th s.pl) := ⟨(h.d.ch e1 (by decide) (by decide) (by decide)).ch e2 (by decide) (by decide) (by decide), by
        show LockP _ s.L _ _
        rw [hL]
        exact p1.ch e2 (by decide), (h.thr.ch e1 (by decide) (by decide) (by decide)).ch e2 (by decide) (by decide) (by decide), by
        show HoldP _ _ _ (upd s.hc l (s.hc l)) _ _ _ _
        rw [upd_self]
        exact p2, by
        show ∀ m k, upd s.hc l (s.hc l) m ≤ k → _
        rw [upd_self]
        exact h.room, LRows.chL (LRows.chL h.slots e1 (by decide)) e2 (by decide), LRows.chL (LRows.chL h.pends e1 (by decide)) e2 (by decide), LRows.chL (LRows.chL h.locks e1 (by decide)) e2 (by decide), (h.calls.ch e1 (by decide)).ch e2 (by decide), (h.map.ch e1 (by decide)).ch e2 (by decide)⟩
    clear p1 e1 q1 p2 e2
    go_enter Yba.func27, Yba.ntmps27
    go_wp2
    go_ret
    exact ⟨g, s.hc l, s.th, s.pl, rfl, hr, Nat.le_refl _, fun p _ => ⟨rfl, rfl⟩, hs, eC⟩
  · have hfull : s.hn l = s.hc l := by omega
    have hA := h.alloc (.cells #[.int .i64 0, .int .i64 0, nilS, nilS] 66)
    obtain ⟨cap, w1, hrun, hcap, e1, p1⟩ := hA.holds.append (l := l) hA.base hfull (h.room l) (by omega) ⟨w.heap.size, 0, none⟩ 1 (zH_new w)
    have hrI : decide ((s.hn l : Int) < (s.hc l : Int)) = false := by simp; omega
    have bA : Blk w1 LS 93 256 lc := e1.blk (b0.alloc _) id
    have zA := bA.frozen
    have yA := bA.cell (i := l * 4) (by omega)
    have lockA : LockP w1 (some LS) s.hv s.ct := by
      have := hA.lock
      rw [hL] at this
      exact this.ch e1 id
    obtain ⟨p2, e2⟩ := lockA.setHv hl (.slice (some ⟨w.heap.size + 1, 0, none⟩) (s.hn l + 1) cap)
    simp only [World.size_alloc] at p1 hrun
    have q1 := p1.ch e2 (by decide)
    obtain ⟨p3, e3⟩ := q1.setTh (l := l) (g := w.heap.size + 1) (n := s.hn l + 1) (c := cap) (by simp [upd]) (s.hn l) t
    have e0 : Ch (fun _ => False) w w1 := ((Ch.refl (fun _ => False) w).alloc _).trans e1
    have eC : Ch Es w _ := ((e0.mono fun e he => he.elim).trans (e2.mono fun e he => .inl he)).trans (e3.mono fun e he => .inr he)
    have hs : Rep _ (Started s l t (w.heap.size + 1) cap (fun p => if p.1 = l ∧ s.hn l ≤ p.2 then 0 else s.th p) (fun p => if p.1 = l ∧ s.hn l ≤ p.2 then 0 else s.pl p)) := ⟨((h.d.ch e0 id id id).ch e2 (by decide) (by decide) (by decide)).ch e3 (by decide) (by decide) (by decide), by
        show LockP _ s.L _ _
        rw [hL]
        exact p2.ch e3 (by decide), ((h.thr.ch e0 id id id).ch e2 (by decide) (by decide) (by decide)).ch e3 (by decide) (by decide) (by decide), p3, fun m k hk => h.room m k (by
          by_cases e : m = l
          · subst e
            have : upd s.hc m cap m ≤ k := hk
            rw [upd_same] at this
            omega
          · have : upd s.hc l cap m ≤ k := hk
            rwa [upd_other _ _ e] at this), LRows.chL (LRows.chL (LRows.chL h.slots e0 id) e2 (by decide)) e3 (by decide), LRows.chL (LRows.chL (LRows.chL h.pends e0 id) e2 (by decide)) e3 (by decide), LRows.chL (LRows.chL (LRows.chL h.locks e0 id) e2 (by decide)) e3 (by decide), ((h.calls.ch e0 id).ch e2 (by decide)).ch e3 (by decide), ((h.map.ch e0 id).ch e2 (by decide)).ch e3 (by decide)⟩
    obtain ⟨cg, bG⟩ := q1.blk (l := l) (g := w.heap.size + 1) (n := s.hn l + 1) (c := cap) (by simp [upd])
    have zG := bG.frozen
    have yG := bG.cell (i := s.hn l * 4) (by rw [upd_same]; omega)
    have hnlI : (s.hn l : Int) < (s.hn l : Int) + 1 := by omega
    rw [hv] at hrun
    have HF : Hid (s.hn l = s.hc l) := hfull
    unfold nilS at hrun
    clear p1 p2 p3 q1 e1 e2 e3 lockA hfull
    go_enter Yba.func27, Yba.ntmps27
    go_wp2
    go_ret
    exact ⟨w.heap.size + 1, cap, _, _, rfl, by omega, by have := HF.out; omega, fun p hp => by
      have : ¬ (p.1 = l ∧ s.hn l ≤ p.2) := by omega
      simp [this], hs, eC⟩

#print axioms startHold_rep
end Go.Proofs.Ybulkbzhm
