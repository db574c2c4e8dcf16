/-
  The plain laws of dropNested.
-/
import Derived.Test.YbulkbzhmPure
namespace Go.Proofs.Ybulkbzhm
set_option linter.unusedSectionVars false
variable [Base]
open Go.RowKit Go.Maps

/-- A list from which place p leaves: the last takes it. -/
def cutAt (q : List Nat) (p : Nat) : List Nat := (q.set p (q.getD (q.length - 1) 0)).take (q.length - 1)

theorem cutAt_length (q : List Nat) (p : Nat) : (cutAt q p).length = q.length - 1 := by
  simp [cutAt]

theorem cutAt_get (q : List Nat) (p i : Nat) (hi : i < q.length - 1) : (cutAt q p).getD i 0 = if i = p then q.getD (q.length - 1) 0 else q.getD i 0 := by
  unfold cutAt
  rw [getD_take, if_pos hi, getD_set]
  by_cases e : i = p
  · rw [if_pos ⟨e.symm, by omega⟩, if_pos e]
  · rw [if_neg (fun h => e h.1.symm), if_neg e]

/-- An empty hold leaves. -/
theorem Inv.removeHold {N : Nat} {V s' : St} (h : Inv N V) {t l k : Nat} (ht : t ≤ 2) (hl : l ≤ 2) (hk : k < V.hn l) (hth : V.th (l, k) = t) {pl2 : Nat × Nat → Nat}
    (hp2 : ∀ l' j, l' ≤ 2 → j < V.hn l' → (l', j) ≠ (l, k) → pl2 (l', j) = if V.th (l', j) = t ∧ V.pl (l', j) = (V.ql t).length - 1 then V.pl (l, k) else V.pl (l', j))
    (e1 : s'.hn = upd V.hn l (V.hn l - 1))
    (e2 : ∀ j, j < V.hn l - 1 → s'.th (l, j) = V.th (l, if j = k then V.hn l - 1 else j) ∧ s'.pl (l, j) = pl2 (l, if j = k then V.hn l - 1 else j) ∧ s'.sl (l, j) = V.sl (l, if j = k then V.hn l - 1 else j) ∧ s'.pd (l, j) = V.pd (l, if j = k then V.hn l - 1 else j))
    (e3 : ∀ l' j, l' ≠ l → s'.th (l', j) = V.th (l', j) ∧ s'.pl (l', j) = pl2 (l', j) ∧ s'.sl (l', j) = V.sl (l', j) ∧ s'.pd (l', j) = V.pd (l', j))
    (e4 : ∀ j, V.hn l - 1 ≤ j → s'.sl (l, j) = [] ∧ s'.pd (l, j) = [])
    (e5 : s'.ql = upd V.ql t (cutAt (V.ql t) (V.pl (l, k)))) (e6 : s'.xk = V.xk) (e7 : s'.ct = V.ct) (e8 : s'.ph = V.ph) (e9 : s'.pz = V.pz) (e10 : s'.xv 8 = V.xv 8) (e11 : s'.qv 5 = V.qv 5) : Inv N s' := by
  obtain ⟨hpl, hpq⟩ := h.kl l k hl hk
  rw [hth] at hpl hpq
  have hlen : (cutAt (V.ql t) (V.pl (l, k))).length = (V.ql t).length - 1 := cutAt_length _ _
  -- every new position is an old one
  have hold : ∀ l' j, l' ≤ 2 → j < s'.hn l' → ∃ i, i < V.hn l' ∧ (l', i) ≠ (l, k) ∧ s'.th (l', j) = V.th (l', i) ∧ s'.pl (l', j) = pl2 (l', i) ∧ s'.sl (l', j) = V.sl (l', i) ∧ s'.pd (l', j) = V.pd (l', i) ∧ (l' = l → i = if j = k then V.hn l - 1 else j) ∧ (l' ≠ l → i = j) := fun l' j hl' hj => by
    rw [e1] at hj
    by_cases e : l' = l
    · subst e
      rw [upd_same] at hj
      obtain ⟨a1, a2, a3, a4⟩ := e2 j hj
      refine ⟨if j = k then V.hn l' - 1 else j, ?_, ?_, a1, a2, a3, a4, fun _ => rfl, fun h => absurd rfl h⟩
      · by_cases ej : j = k
        · rw [if_pos ej]; omega
        · rw [if_neg ej]; omega
      · by_cases ej : j = k
        · rw [if_pos ej]
          intro e
          simp at e
          omega
        · rw [if_neg ej]
          intro e
          simp at e
          omega
    · rw [upd_other _ _ e] at hj
      obtain ⟨a1, a2, a3, a4⟩ := e3 l' j e
      exact ⟨j, hj, fun h => e (by simp at h; exact h.1), a1, a2, a3, a4, fun h => absurd h e, fun _ => rfl⟩
  -- and every old one but (l, k) a new one
  have hnew : ∀ l' i, l' ≤ 2 → i < V.hn l' → (l', i) ≠ (l, k) → ∃ j, j < s'.hn l' ∧ s'.th (l', j) = V.th (l', i) ∧ s'.pl (l', j) = pl2 (l', i) := fun l' i hl' hi hne => by
    by_cases e : l' = l
    · subst e
      have hik : i ≠ k := fun h => hne (by rw [h])
      by_cases ei : i = V.hn l' - 1
      · have hk' : k < V.hn l' - 1 := by omega
        obtain ⟨a1, a2, -, -⟩ := e2 k hk'
        rw [if_pos rfl, ← ei] at a1 a2
        exact ⟨k, by rw [e1, upd_same]; exact hk', a1, a2⟩
      · obtain ⟨a1, a2, -, -⟩ := e2 i (by omega)
        rw [if_neg hik] at a1 a2
        exact ⟨i, by rw [e1, upd_same]; omega, a1, a2⟩
    · obtain ⟨a1, a2, -, -⟩ := e3 l' i e
      exact ⟨i, by rw [e1, upd_other _ _ e]; exact hi, a1, a2⟩
  have hqt : s'.ql t = cutAt (V.ql t) (V.pl (l, k)) := by rw [e5, upd_same]
  have hqo : ∀ u, u ≠ t → s'.ql u = V.ql u := fun u hu => by rw [e5, upd_other _ _ hu]
  refine ⟨fun l' j hl' hj => ?_, fun l' j j' hl' hj hj' he => ?_, fun u i hu hi => ?_, fun l' j hl' hj => ?_, fun l' j n hl' hj hn => ?_, fun l' j hl' hj => ?_, fun l1 j1 l2 j2 n h1 h2 hj1 hj2 he hn1 hn2 => ?_, fun l' j hl' hj => ?_, fun l' j a hl' hj ha => ?_, fun l' j hl' hj => ?_, fun l' j j' a hl' hj hj' ha ha' => ?_, ?_, ?_, ?_, ?_, ?_, ?_, fun u hu => ?_, fun l' hl' => ?_, fun l' j hl' => ?_, fun l' j hl' => ?_, ?_⟩
  · obtain ⟨i, hi, _, a1, _⟩ := hold l' j hl' hj
    rw [a1]
    exact h.thr l' i hl' hi
  · obtain ⟨i, hi, hne, a1, _, _, _, c1, c2⟩ := hold l' j hl' hj
    obtain ⟨i', hi', hne', a1', _, _, _, c1', c2'⟩ := hold l' j' hl' hj'
    rw [a1, a1'] at he
    have hii := h.thd l' i i' hl' hi hi' he
    subst hii
    by_cases e : l' = l
    · have b1 := c1 e
      have b2 := c1' e
      subst e
      have hb : j < V.hn l' - 1 := by rw [e1, upd_same] at hj; exact hj
      have hb' : j' < V.hn l' - 1 := by rw [e1, upd_same] at hj'; exact hj'
      by_cases ej : j = k
      · by_cases ej' : j' = k
        · omega
        · rw [if_pos ej] at b1
          rw [if_neg ej'] at b2
          omega
      · by_cases ej' : j' = k
        · rw [if_neg ej] at b1
          rw [if_pos ej'] at b2
          omega
        · rw [if_neg ej] at b1
          rw [if_neg ej'] at b2
          omega
    · rw [← c2 e, ← c2' e]
  · by_cases e : u = t
    · subst e
      rw [hqt, hlen] at hi
      rw [hqt, cutAt_get _ _ _ hi]
      by_cases ei : i = V.pl (l, k)
      · -- the last lock has come here
        obtain ⟨l', k', b1, b2, b3, b4, b5⟩ := h.lk u ((V.ql u).length - 1) ht (by omega)
        have hne : (l', k') ≠ (l, k) := fun e => by
          simp at e
          obtain ⟨rfl, rfl⟩ := e
          omega
        obtain ⟨j, c1, c2, c3⟩ := hnew l' k' b2 b3 hne
        refine ⟨l', j, by rw [if_pos ei]; exact b1, b2, c1, c2.trans b4, ?_⟩
        rw [c3, hp2 l' k' b2 b3 hne, if_pos ⟨b4, b5⟩, ei]
      · obtain ⟨l', k', b1, b2, b3, b4, b5⟩ := h.lk u i ht (by omega)
        have hne : (l', k') ≠ (l, k) := fun e => by
          simp at e
          obtain ⟨rfl, rfl⟩ := e
          exact ei b5.symm
        obtain ⟨j, c1, c2, c3⟩ := hnew l' k' b2 b3 hne
        refine ⟨l', j, by rw [if_neg ei]; exact b1, b2, c1, c2.trans b4, ?_⟩
        rw [c3, hp2 l' k' b2 b3 hne, if_neg (fun hh => by have := hh.2; omega)]
        exact b5
    · rw [hqo u e] at hi ⊢
      obtain ⟨l', k', b1, b2, b3, b4, b5⟩ := h.lk u i hu hi
      have hne : (l', k') ≠ (l, k) := fun e2 => by
        simp at e2
        obtain ⟨rfl, rfl⟩ := e2
        exact e (b4.symm.trans hth)
      obtain ⟨j, c1, c2, c3⟩ := hnew l' k' b2 b3 hne
      refine ⟨l', j, b1, b2, c1, c2.trans b4, ?_⟩
      rw [c3, hp2 l' k' b2 b3 hne, if_neg (fun hh => e (b4.symm.trans hh.1))]
      exact b5
  · obtain ⟨i, hi, hne, a1, a2, _⟩ := hold l' j hl' hj
    obtain ⟨b1, b2⟩ := h.kl l' i hl' hi
    rw [a1, a2, hp2 l' i hl' hi hne]
    by_cases e : V.th (l', i) = t
    · rw [e] at b1 b2 ⊢
      rw [hqt, hlen]
      by_cases em : V.pl (l', i) = (V.ql t).length - 1
      · rw [if_pos ⟨rfl, em⟩]
        have hpm : V.pl (l, k) ≠ (V.ql t).length - 1 := fun hh => by
          have : V.pl (l', i) = V.pl (l, k) := em.trans hh.symm
          rw [this] at b2
          have ell : l' = l := b2.symm.trans hpq
          subst ell
          have := h.thd l' i k hl' hi hk (e.trans hth.symm)
          subst this
          exact hne rfl
        refine ⟨by omega, ?_⟩
        rw [cutAt_get _ _ _ (by omega), if_pos rfl, ← em]
        exact b2
      · rw [if_neg (fun hh => em hh.2)]
        refine ⟨by omega, ?_⟩
        have hne2 : V.pl (l', i) ≠ V.pl (l, k) := fun hh => by
          rw [hh] at b2
          have ell : l' = l := b2.symm.trans hpq
          subst ell
          have := h.thd l' i k hl' hi hk (e.trans hth.symm)
          subst this
          exact hne rfl
        rw [cutAt_get _ _ _ (by omega), if_neg hne2]
        exact b2
    · rw [if_neg (fun hh => e hh.1), hqo _ e]
      exact ⟨b1, b2⟩
  · obtain ⟨i, hi, _, a1, _, a3, _⟩ := hold l' j hl' hj
    rw [a3] at hn
    rw [a1, e6]
    exact h.sin l' i n hl' hi hn
  · obtain ⟨i, hi, _, _, _, a3, _⟩ := hold l' j hl' hj
    rw [a3]
    exact h.snd l' i hl' hi
  · obtain ⟨i1, hi1, _, a1, _, a3, _⟩ := hold l1 j1 h1 hj1
    obtain ⟨i2, hi2, _, b1, _, b3, _⟩ := hold l2 j2 h2 hj2
    rw [a3] at hn1
    rw [b3] at hn2
    rw [a1, b1] at he
    exact h.sdj l1 i1 l2 i2 n h1 h2 hi1 hi2 he hn1 hn2
  · rw [e1] at hj
    by_cases e : l' = l
    · subst e
      rw [upd_same] at hj
      exact e4 j hj
    · rw [upd_other _ _ e] at hj
      obtain ⟨_, _, a3, a4⟩ := e3 l' j e
      rw [a3, a4]
      exact h.room l' j hl' hj
  · obtain ⟨i, hi, _, _, _, _, a4, _⟩ := hold l' j hl' hj
    rw [a4] at ha
    rw [e8]
    exact h.pin l' i a hl' hi ha
  · obtain ⟨i, hi, _, _, _, _, a4, _⟩ := hold l' j hl' hj
    rw [a4]
    exact h.pnd l' i hl' hi
  · obtain ⟨i, hi, _, _, _, _, a4, c1, c2⟩ := hold l' j hl' hj
    obtain ⟨i', hi', _, _, _, _, a4', c1', c2'⟩ := hold l' j' hl' hj'
    rw [a4] at ha
    rw [a4'] at ha'
    have hii := h.pdj l' i i' a hl' hi hi' ha ha'
    subst hii
    by_cases e : l' = l
    · have b1 := c1 e
      have b2 := c1' e
      subst e
      have hb : j < V.hn l' - 1 := by rw [e1, upd_same] at hj; exact hj
      have hb' : j' < V.hn l' - 1 := by rw [e1, upd_same] at hj'; exact hj'
      by_cases ej : j = k
      · by_cases ej' : j' = k
        · omega
        · rw [if_pos ej] at b1
          rw [if_neg ej'] at b2
          omega
      · by_cases ej' : j' = k
        · rw [if_neg ej] at b1
          rw [if_pos ej'] at b2
          omega
        · rw [if_neg ej] at b1
          rw [if_neg ej'] at b2
          omega
    · rw [← c2 e, ← c2' e]
  · rw [hqo 3 (by omega), e7]
    exact h.cin
  · rw [hqo 3 (by omega), e7]
    exact h.cct
  · rw [e6]
    exact h.kd
  · rw [e11, hqo 5 (by omega)]
    exact h.b5
  · rw [e10, e6]
    exact h.b8
  · rw [e6]
    exact h.zx
  · by_cases e : u = t
    · subst e
      rw [hqt, hlen]
      have := h.zq u hu
      omega
    · rw [hqo u e]
      exact h.zq u hu
  · rw [e1]
    have := h.zh l' hl'
    by_cases e : l' = l
    · subst e
      rw [upd_same]
      omega
    · rw [upd_other _ _ e]
      exact this
  · by_cases e : l' = l
    · subst e
      by_cases hj : j < V.hn l' - 1
      · rw [(e2 j hj).2.2.1]
        exact h.zs l' _ hl'
      · rw [(e4 j (by omega)).1]
        simp
    · rw [(e3 l' j e).2.2.1]
      exact h.zs l' j hl'
  · by_cases e : l' = l
    · subst e
      by_cases hj : j < V.hn l' - 1
      · rw [(e2 j hj).2.2.2]
        exact h.zp l' _ hl'
      · rw [(e4 j (by omega)).2]
        simp
    · rw [(e3 l' j e).2.2.2]
      exact h.zp l' j hl'
  · rw [e9]
    exact h.zz

/-- A lock is contested no longer. -/
theorem Inv.contRemove {N : Nat} {s : St} (h : Inv N s) {l : Nat} (hl : l ≤ 2) (h0 : s.ct l ≠ 0) (qv' : Nat → Value) (hq : qv' 5 = s.qv 5) :
    Inv N { s with qv := qv', ql := upd s.ql 3 (cutAt (s.ql 3) (s.ct l - 1)), ct := upd (upd s.ct ((s.ql 3).getD ((s.ql 3).length - 1) 0) (s.ct l)) l 0 } := by
  obtain ⟨hc1, hc2⟩ := h.cct l hl h0
  have hq3 : upd s.ql 3 (cutAt (s.ql 3) (s.ct l - 1)) 3 = cutAt (s.ql 3) (s.ct l - 1) := upd_same _ _ _
  have hqo : ∀ u, u ≠ 3 → upd s.ql 3 (cutAt (s.ql 3) (s.ct l - 1)) u = s.ql u := fun u hu => upd_other _ _ hu
  obtain ⟨hm1, hm2⟩ := h.cin ((s.ql 3).length - 1) (by omega)
  have hlen : (cutAt (s.ql 3) (s.ct l - 1)).length = (s.ql 3).length - 1 := cutAt_length _ _
  refine ⟨h.thr, h.thd, fun t i ht hi => ?_, fun l' k hl' hk => ?_, h.sin, h.snd, h.sdj, h.room, h.pin, h.pnd, h.pdj, fun i hi => ?_, fun l' hl' hc => ?_, h.kd, ?_, h.b8, h.zx, fun u hu => ?_, h.zh, h.zs, h.zp, h.zz⟩
  · have hi' : i < (upd s.ql 3 (cutAt (s.ql 3) (s.ct l - 1)) t).length := hi
    rw [hqo t (by omega)] at hi'
    show ∃ l' k, (upd s.ql 3 (cutAt (s.ql 3) (s.ct l - 1)) t).getD i 0 = l' ∧ _
    rw [hqo t (by omega)]
    exact h.lk t i ht hi'
  · have := h.kl l' k hl' hk
    have ht := h.thr l' k hl' hk
    show s.pl (l', k) < (upd s.ql 3 (cutAt (s.ql 3) (s.ct l - 1)) (s.th (l', k))).length ∧ (upd s.ql 3 (cutAt (s.ql 3) (s.ct l - 1)) (s.th (l', k))).getD (s.pl (l', k)) 0 = l'
    rw [hqo _ (by omega)]
    exact this
  · have hi' : i < (upd s.ql 3 (cutAt (s.ql 3) (s.ct l - 1)) 3).length := hi
    show (upd s.ql 3 (cutAt (s.ql 3) (s.ct l - 1)) 3).getD i 0 ≤ 2 ∧ upd (upd s.ct ((s.ql 3).getD ((s.ql 3).length - 1) 0) (s.ct l)) l 0 ((upd s.ql 3 (cutAt (s.ql 3) (s.ct l - 1)) 3).getD i 0) = i + 1
    rw [hq3, hlen] at hi'
    rw [hq3, cutAt_get _ _ _ hi']
    by_cases e : i = s.ct l - 1
    · rw [if_pos e]
      have hne : (s.ql 3).getD ((s.ql 3).length - 1) 0 ≠ l := fun e2 => by
        rw [e2] at hm2
        omega
      rw [upd_other _ _ hne, upd_same]
      exact ⟨hm1, by omega⟩
    · rw [if_neg e]
      obtain ⟨b1, b2⟩ := h.cin i (by omega)
      have hne : (s.ql 3).getD i 0 ≠ l := fun e2 => by
        rw [e2] at b2
        omega
      have hne2 : (s.ql 3).getD i 0 ≠ (s.ql 3).getD ((s.ql 3).length - 1) 0 := fun e2 => by
        rw [e2] at b2
        omega
      rw [upd_other _ _ hne, upd_other _ _ hne2]
      exact ⟨b1, b2⟩
  · have hc' : upd (upd s.ct ((s.ql 3).getD ((s.ql 3).length - 1) 0) (s.ct l)) l 0 l' ≠ 0 := hc
    show upd (upd s.ct ((s.ql 3).getD ((s.ql 3).length - 1) 0) (s.ct l)) l 0 l' - 1 < (upd s.ql 3 (cutAt (s.ql 3) (s.ct l - 1)) 3).length ∧ (upd s.ql 3 (cutAt (s.ql 3) (s.ct l - 1)) 3).getD (upd (upd s.ct ((s.ql 3).getD ((s.ql 3).length - 1) 0) (s.ct l)) l 0 l' - 1) 0 = l'
    rw [hq3, hlen]
    by_cases e : l' = l
    · rw [e, upd_same] at hc'
      exact absurd rfl hc'
    · rw [upd_other _ _ e] at hc' ⊢
      by_cases e2 : l' = (s.ql 3).getD ((s.ql 3).length - 1) 0
      · rw [← e2, upd_same]
        have hlt : s.ct l - 1 < (s.ql 3).length - 1 := by
          by_cases hh : s.ct l - 1 = (s.ql 3).length - 1
          · rw [hh] at hc2
            exact absurd (e2.trans hc2) e
          · omega
        refine ⟨hlt, ?_⟩
        rw [cutAt_get _ _ _ hlt, if_pos rfl]
        exact e2.symm
      · rw [upd_other _ _ e2] at hc' ⊢
        obtain ⟨b1, b2⟩ := h.cct l' hl' hc'
        have hlt : s.ct l' - 1 < (s.ql 3).length - 1 := by
          by_cases hh : s.ct l' - 1 = (s.ql 3).length - 1
          · rw [hh] at b2
            exact absurd b2.symm e2
          · omega
        have hne : s.ct l' - 1 ≠ s.ct l - 1 := fun hh => by
          rw [hh, hc2] at b2
          exact e b2.symm
        refine ⟨hlt, ?_⟩
        rw [cutAt_get _ _ _ hlt, if_neg hne]
        exact b2
  · show qv' 5 = nilS ∧ upd s.ql 3 (cutAt (s.ql 3) (s.ct l - 1)) 5 = []
    rw [hqo 5 (by omega), hq]
    exact h.b5
  · show (upd s.ql 3 (cutAt (s.ql 3) (s.ct l - 1)) u).length ≤ N
    have := h.zq u hu
    by_cases e : u = 3
    · subst e
      rw [hq3, hlen]
      omega
    · rw [hqo u e]
      omega

#print axioms Inv.contRemove
end Go.Proofs.Ybulkbzhm
