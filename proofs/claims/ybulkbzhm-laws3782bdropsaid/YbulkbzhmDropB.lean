/-
  lockList.remove on the memory; the places behind it.
-/
import Derived.Test.YbulkbzhmDropA
namespace Go.Proofs.Ybulkbzhm
set_option linter.unusedSectionVars false
variable [Base]
open Go.RowKit Go.Maps
open Go.WideShapes (add_plain)

/-- Where a hold stands, the array of threads is made. -/
theorem Rep.made {w : World} {s : St} {N : Nat} (h : Rep w s) (hI : Inv N s) {l k : Nat} (hl : l ≤ 2) (hk : k < s.hn l) : ∃ TS, s.T = some TS := by
  rcases h.thr with ⟨_, _, h3⟩ | ⟨TS, h1, _⟩
  · obtain ⟨h4, -⟩ := hI.kl l k hl hk
    have ht := hI.thr l k hl hk
    obtain ⟨g, cap, sz, c, hx, -⟩ := (h.locks.row (s.th (l, k))).at h4
    rw [h3 _ ht] at hx
    simp at hx
  · exact ⟨TS, h1⟩

/-- A block of its own beside the lists of locks. -/
def Apart (qv : Nat → Value) (B : Nat) : Prop := ∀ i, (qv i).ownBlock ≠ some B

theorem Apart.upd {qv : Nat → Value} {B : Nat} (h : Apart qv B) {t g n c n' c' : Nat} (hq : qv t = .slice (some ⟨g, 0, none⟩) n c) : Apart (upd qv t (.slice (some ⟨g, 0, none⟩) n' c')) B := fun i hi => by
  by_cases e : i = t
  · subst e
    rw [upd_same] at hi
    exact h i (by rw [hq]; exact hi)
  · rw [upd_other _ _ e] at hi
    exact h i hi

/-- x.locks.remove(place). -/
theorem locksRemove_call {w : World} {s : St} {N : Nat} (h : Rep w s) (hI : Inv N s) (hN : N ≤ 5000) {TS t l k : Nat} (hT : s.T = some TS) (ht : t ≤ 2) (hl : l ≤ 2) (hk : k < s.hn l) (hth : s.th (l, k) = t) :
    Calls Yba.prog 23 #[.pointer (some ⟨TS, t * 8 + 5, none⟩), .int .i64 (s.pl (l, k) : Int)] w fun e w' => e = .returned (.int .i64 (((s.ql t).getD ((s.ql t).length - 1) 0 : Nat) : Int)) ∧ ∃ v', Rep w' { s with qv := upd s.qv t v', ql := upd s.ql t (cutAt (s.ql t) (s.pl (l, k))) } ∧ Ch (fun e => e = 3 ∨ e = 104) w w' ∧
      ∀ B, Apart s.qv B → Apart (upd s.qv t v') B ∧ ∀ sz c, Blk w B 3 sz c → Blk w' B 3 sz c := by
  obtain ⟨hp, -⟩ := hI.kl l k hl hk
  rw [hth] at hp
  obtain ⟨n, hn⟩ : ∃ n, (s.ql t).length = n + 1 := ⟨(s.ql t).length - 1, by omega⟩
  obtain ⟨g, cap, sz, c, hv, hle, hmx, hb, hsz, hcell⟩ := (h.locks.row t).at (i := n) (by omega)
  obtain ⟨g', cap', sz', c', hv', -, -, -, -, hcell'⟩ := (h.locks.row t).at hp
  rw [hv] at hv'
  simp at hv'
  obtain ⟨rfl, rfl⟩ := hv'
  rw [hn] at hv hle
  have hz := hI.zq t (by omega)
  obtain ⟨tc, lv, hq, -, -⟩ := h.thrP hT
  have q0 : w.cell? ⟨TS, t * 8 + 5, none⟩ = some (.slice (some ⟨g, 0, none⟩) (n + 1) cap) := (hq.blk.cell (by omega)).trans (by rw [(hq.one t ht).c5, hv])
  refine (llRemove TS (t * 8 + 5) g n cap (s.pl (l, k)) _ w q0 (by omega) (by omega) hle hq.blk.frozen hb.frozen (hq.blk.ne hb (by decide)) _ hcell hcell').mono ?_
  rintro e w' ⟨rfl, rfl⟩
  obtain ⟨r1, r2⟩ := h.locksRemove hT (p := s.pl (l, k)) ht hv hn
  refine ⟨by rw [hn]; rfl, _, r1, r2, fun B hB => ⟨hB.upd hv, fun sz2 c2 hB2 => ?_⟩⟩
  have n1 : B ≠ g := fun e => hB t (by rw [hv, e]; rfl)
  have n2 : B ≠ TS := hB2.ne hq.blk (by decide)
  exact (hB2.set_other (a := ⟨g, s.pl (l, k), none⟩) n1 _).set_other (a := ⟨TS, t * 8 + 5, none⟩) n2 _

/-- d.contested.remove(ld.contested - 1). -/
theorem contRemove_call {w : World} {s : St} {N : Nat} (h : Rep w s) (hI : Inv N s) (hN : N ≤ 5000) {l : Nat} (hl : l ≤ 2) (h0 : s.ct l ≠ 0) :
    Calls Yba.prog 23 #[.pointer (some ⟨s.D, 7, none⟩), .int .i64 ((s.ct l : Int) - 1)] w fun e w' => e = .returned (.int .i64 (((s.ql 3).getD ((s.ql 3).length - 1) 0 : Nat) : Int)) ∧ ∃ v', Rep w' { s with qv := upd s.qv 3 v', ql := upd s.ql 3 (cutAt (s.ql 3) (s.ct l - 1)) } ∧ Ch (fun e => e = 3 ∨ e = 56) w w' ∧
      ∀ B, Apart s.qv B → Apart (upd s.qv 3 v') B ∧ ∀ sz c, Blk w B 3 sz c → Blk w' B 3 sz c := by
  obtain ⟨hp, -⟩ := hI.cct l hl h0
  have eI : ((s.ct l : Int) - 1) = ((s.ct l - 1 : Nat) : Int) := by omega
  rw [eI]
  obtain ⟨n, hn⟩ : ∃ n, (s.ql 3).length = n + 1 := ⟨(s.ql 3).length - 1, by omega⟩
  obtain ⟨g, cap, sz, c, hv, hle, hmx, hb, hsz, hcell⟩ := (h.locks.row 3).at (i := n) (by omega)
  obtain ⟨g', cap', sz', c', hv', -, -, -, -, hcell'⟩ := (h.locks.row 3).at hp
  rw [hv] at hv'
  simp at hv'
  obtain ⟨rfl, rfl⟩ := hv'
  rw [hn] at hv hle
  have hz := hI.zq 3 (by omega)
  obtain ⟨⟨dv, hD⟩, q7, -, zD⟩ := h.dcell
  rw [hv] at q7
  refine (llRemove s.D 7 g n cap (s.ct l - 1) _ w q7 (by omega) (by omega) hle zD hb.frozen (hD.ne hb (by decide)) _ hcell hcell').mono ?_
  rintro e w' ⟨rfl, rfl⟩
  obtain ⟨r1, r2⟩ := h.contRemove (p := s.ct l - 1) hv hn
  refine ⟨by rw [hn]; rfl, _, r1, r2, fun B hB => ⟨hB.upd hv, fun sz2 c2 hB2 => ?_⟩⟩
  have n1 : B ≠ g := fun e => hB 3 (by rw [hv, e]; rfl)
  have n2 : B ≠ s.D := hB2.ne hD (by decide)
  exact (hB2.set_other (a := ⟨g, s.ct l - 1, none⟩) n1 _).set_other (a := ⟨s.D, 7, none⟩) n2 _

/-- The places behind the removal of (l, k): the last of t's locks stands where l stood. -/
def Placed (s : St) (t l k : Nat) (pl2 : Nat × Nat → Nat) : Prop :=
  ∀ l' j, l' ≤ 2 → j < s.hn l' → (l', j) ≠ (l, k) → pl2 (l', j) = if s.th (l', j) = t ∧ s.pl (l', j) = (s.ql t).length - 1 then s.pl (l, k) else s.pl (l', j)

theorem Inv.placed {N : Nat} {s : St} (h : Inv N s) {t l k : Nat} (hl : l ≤ 2) (hk : k < s.hn l) (hth : s.th (l, k) = t) :
    ((s.ql t).getD ((s.ql t).length - 1) 0 = l → Placed s t l k s.pl) ∧ (s.ql t).getD ((s.ql t).length - 1) 0 ≤ 2 ∧ ∃ k', k' < s.hn ((s.ql t).getD ((s.ql t).length - 1) 0) ∧ s.th ((s.ql t).getD ((s.ql t).length - 1) 0, k') = t ∧ Placed s t l k (upd s.pl ((s.ql t).getD ((s.ql t).length - 1) 0, k') (s.pl (l, k))) := by
  have ht : t ≤ 2 := by rw [← hth]; exact h.thr l k hl hk
  obtain ⟨hp, -⟩ := h.kl l k hl hk
  rw [hth] at hp
  obtain ⟨m, k', hm, hm2, hk', hth', hpl'⟩ := h.lk t ((s.ql t).length - 1) ht (by omega)
  rw [hm]
  have uniq : ∀ l' j, l' ≤ 2 → j < s.hn l' → s.th (l', j) = t → s.pl (l', j) = (s.ql t).length - 1 → (l', j) = (m, k') := fun l' j hl' hj e1 e2 => by
    obtain ⟨-, a2⟩ := h.kl l' j hl' hj
    rw [e1, e2, hm] at a2
    subst a2
    have := h.thd m j k' hl' hj hk' (e1.trans hth'.symm)
    rw [this]
  refine ⟨fun e l' j hl' hj hne => ?_, hm2, k', hk', hth', fun l' j hl' hj hne => ?_⟩
  · split
    · rename_i hc
      have := uniq l' j hl' hj hc.1 hc.2
      rw [e] at this
      have e2 := h.thd l k k' hl hk (by rw [← e]; exact hk') (hth.trans (by rw [← e]; exact hth'.symm))
      rw [← e2] at this
      exact absurd this hne
    · rfl
  · split
    · rename_i hc
      rw [uniq l' j hl' hj hc.1 hc.2, upd_same]
    · rename_i hc
      by_cases e : (l', j) = (m, k')
      · simp at e
        obtain ⟨rfl, rfl⟩ := e
        exact absurd ⟨hth', hpl'⟩ hc
      · rw [upd_other _ _ e]

#print axioms Inv.placed
end Go.Proofs.Ybulkbzhm
