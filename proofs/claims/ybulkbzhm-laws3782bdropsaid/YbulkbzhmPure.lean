/-
  The plain laws on the state.
-/
import Derived.Test.YbulkbzhmCompact
namespace Go.Proofs.Ybulkbzhm
set_option linter.unusedSectionVars false
variable [Base]
open Go.RowKit Go.Maps

/-! ### Kinds -/

theorem getD_set (K : List Nat) (i j v : Nat) : (K.set i v).getD j 0 = if i = j ∧ j < K.length then v else K.getD j 0 := by
  simp only [List.getD, List.getElem?_set]
  by_cases h : i = j
  · subst h
    by_cases h2 : i < K.length
    · simp [h2]
    · simp [h2]
  · simp [h]

theorem getD_take (K : List Nat) (m j : Nat) : (K.take m).getD j 0 = if j < m then K.getD j 0 else 0 := by
  simp only [List.getD, List.getElem?_take]
  by_cases h : j < m <;> simp [h]

theorem Dropped.length {K K' : List Nat} {i : Nat} (h : Dropped K K' i) : K'.length ≤ K.length := by
  obtain ⟨m, hm, rfl, _⟩ := h
  simp
  omega

theorem Dropped.stays {K K' : List Nat} {i n : Nat} (h : Dropped K K' i) (hn : n < K.length) (hne : n ≠ i) (h2 : K.getD n 0 ≠ 2) : n < K'.length ∧ K'.getD n 0 = K.getD n 0 := by
  obtain ⟨m, hm, rfl, hall⟩ := h
  have e : (K.set i 2).getD n 0 = K.getD n 0 := by
    rw [getD_set, if_neg (fun h => hne h.1.symm)]
  have hlt : n < m := by
    by_cases hlt : n < m
    · exact hlt
    · exact absurd (e.symm.trans (hall n (by omega) hn)) h2
  refine ⟨by simp; omega, ?_⟩
  rw [getD_take, if_pos hlt, e]

theorem Dropped.kinds {K K' : List Nat} {i : Nat} (h : Dropped K K' i) (hk : ∀ n, n < K.length → K.getD n 0 ≤ 2) : ∀ n, n < K'.length → K'.getD n 0 ≤ 2 := by
  obtain ⟨m, hm, rfl, _⟩ := h
  intro n hn
  simp at hn
  rw [getD_take, if_pos (by omega), getD_set]
  by_cases h : i = n ∧ n < K.length
  · rw [if_pos h]
    omega
  · rw [if_neg h]
    exact hk n (by omega)

theorem liveK_append (A B : List Nat) : liveK (A ++ B) = liveK A ++ liveK B := by simp [liveK]

theorem liveK_dead (B : List Nat) (h : ∀ j, j < B.length → B.getD j 0 = 2) : liveK B = [] := by
  unfold liveK
  rw [List.filter_eq_nil_iff]
  intro a ha
  obtain ⟨i, hi, rfl⟩ := List.getElem_of_mem ha
  have := h i hi
  simp [List.getD, hi] at this
  simp [this]

/-- How many sections are left. -/
theorem Dropped.live {K K' : List Nat} {i : Nat} (h : Dropped K K' i) (hi : i < K.length) (h2 : K.getD i 0 ≠ 2) : (liveK K').length + 1 = (liveK K).length := by
  obtain ⟨m, hm, rfl, hall⟩ := h
  have e1 : liveK ((K.set i 2).take m) = liveK (K.set i 2) := by
    have e := List.take_append_drop m (K.set i 2)
    have hd : liveK ((K.set i 2).drop m) = [] := liveK_dead _ fun j hj => by
      simp at hj
      have := hall (m + j) (by omega) (by omega)
      simpa [List.getD] using this
    conv => rhs; rw [← e, liveK_append, hd, List.append_nil]
  rw [e1]
  have hs : K.set i 2 = K.take i ++ 2 :: K.drop (i + 1) := List.set_eq_take_append_cons_drop.trans (if_pos hi)
  have hk : K = K.take i ++ K.getD i 0 :: K.drop (i + 1) := by
    have : K.drop i = K.getD i 0 :: K.drop (i + 1) := by
      rw [List.drop_eq_getElem_cons hi]
      simp [List.getD, hi]
    rw [← this, List.take_append_drop]
  rw [hs]
  conv => rhs; rw [hk]
  rw [liveK_append, liveK_append]
  have a1 : liveK (2 :: K.drop (i + 1)) = liveK (K.drop (i + 1)) := by simp [liveK]
  have a2 : liveK (K.getD i 0 :: K.drop (i + 1)) = K.getD i 0 :: liveK (K.drop (i + 1)) := by
    simp only [liveK]
    rw [List.filter_cons, if_pos (by simpa using h2)]
  rw [a1, a2]
  simp
  omega

/-! ### Compaction -/

theorem movedTo_lt {K : List Nat} {n : Nat} (hn : n < K.length) (h2 : K.getD n 0 ≠ 2) : movedTo K n < (liveK K).length ∧ (liveK K).getD (movedTo K n) 0 = K.getD n 0 := by
  have hk : K = K.take n ++ K.getD n 0 :: K.drop (n + 1) := by
    have : K.drop n = K.getD n 0 :: K.drop (n + 1) := by
      rw [List.drop_eq_getElem_cons hn]
      simp [List.getD, hn]
    rw [← this, List.take_append_drop]
  have e : liveK K = liveK (K.take n) ++ K.getD n 0 :: liveK (K.drop (n + 1)) := by
    conv => lhs; rw [hk, liveK_append]
    congr 1
    simp only [liveK]
    rw [List.filter_cons, if_pos (by simpa using h2)]
  unfold movedTo
  rw [e]
  refine ⟨by simp, ?_⟩
  generalize K.getD n 0 = u
  simp [List.getD]

theorem movedTo_mono {K : List Nat} {n m : Nat} (hnm : n < m) (hm : m ≤ K.length) (h2 : K.getD n 0 ≠ 2) : movedTo K n < movedTo K m := by
  unfold movedTo
  have h1 := liveK_succ K n (by omega)
  rw [if_neg h2] at h1
  have h3 : K.take m = K.take (n + 1) ++ (K.take m).drop (n + 1) := by
    have := List.take_append_drop (n + 1) (K.take m)
    rw [List.take_take, show min (n + 1) m = n + 1 by omega] at this
    exact this.symm
  rw [h3, liveK_append, h1]
  simp

theorem movedTo_inj {K : List Nat} {n m : Nat} (hn : n < K.length) (hm : m < K.length) (h2 : K.getD n 0 ≠ 2) (h3 : K.getD m 0 ≠ 2) (he : movedTo K n = movedTo K m) : n = m := by
  rcases Nat.lt_trichotomy n m with h | h | h
  · have := movedTo_mono h (by omega) h2
    omega
  · exact h
  · have := movedTo_mono h (by omega) h3
    omega

theorem nodup_map_on {L : List Nat} {f : Nat → Nat} (h : L.Nodup) (hf : ∀ a, a ∈ L → ∀ b, b ∈ L → f a = f b → a = b) : (L.map f).Nodup := by
  induction L with
  | nil => simp
  | cons a L ih =>
    simp only [List.map_cons, List.nodup_cons] at h ⊢
    refine ⟨fun hm => ?_, ih h.2 fun x hx y hy => hf x (by simp [hx]) y (by simp [hy])⟩
    obtain ⟨b, hb, he⟩ := List.mem_map.1 hm
    have := hf b (by simp [hb]) a (by simp) he
    subst this
    exact h.1 hb

theorem liveK_kinds {K : List Nat} (hk : ∀ n, n < K.length → K.getD n 0 ≤ 2) : ∀ n, n < (liveK K).length → (liveK K).getD n 0 ≤ 2 := by
  intro n hn
  have hmem : (liveK K)[n] ∈ liveK K := List.getElem_mem hn
  have h1 : (liveK K).getD n 0 = (liveK K)[n] := by simp [List.getD, hn]
  rw [h1]
  have := (List.mem_filter.1 hmem).1
  obtain ⟨i, hi, e⟩ := List.getElem_of_mem this
  have := hk i hi
  simp [List.getD, hi] at this
  omega

theorem Inv.cmp {N : Nat} {s : St} (h : Inv N s) {t : Nat} (ht : t ≤ 2) (v : Value) : Inv N (Cmp s t v) := by
  have hsl : ∀ l k, l ≤ 2 → k < s.hn l → (Cmp s t v).sl (l, k) = if s.th (l, k) = t then (s.sl (l, k)).map (movedTo (s.xk t)) else s.sl (l, k) := fun l k hl hk => by
    show (if s.th (l, k) = t ∧ k < s.hn l ∧ l ≤ 2 then _ else _) = _
    by_cases e : s.th (l, k) = t
    · rw [if_pos ⟨e, hk, hl⟩, if_pos e]
    · rw [if_neg (fun h => e h.1), if_neg e]
  have hxk : ∀ u, (Cmp s t v).xk u = upd s.xk t (liveK (s.xk t)) u := fun _ => rfl
  refine ⟨h.thr, h.thd, h.lk, h.kl, fun l k n hl hk hn => ?_, fun l k hl hk => ?_, fun l k l' k' n hl hl' hk hk' he hn hn' => ?_, fun l k hl hk => ?_, h.pin, h.pnd, h.pdj, h.cin, h.cct, fun u n hu hn => ?_, h.b5, ?_, fun u hu => ?_, h.zq, h.zh, fun l k hl => ?_, h.zp, h.zz⟩
  · show n < (upd s.xk t (liveK (s.xk t)) (s.th (l, k))).length ∧ (upd s.xk t (liveK (s.xk t)) (s.th (l, k))).getD n 0 ≠ 2
    rw [hsl l k hl hk] at hn
    by_cases e : s.th (l, k) = t
    · rw [if_pos e] at hn
      obtain ⟨a, ha, rfl⟩ := List.mem_map.1 hn
      obtain ⟨h1, h2⟩ := h.sin l k a hl hk ha
      rw [e] at h1 h2
      obtain ⟨h3, h4⟩ := movedTo_lt h1 h2
      rw [e, upd_same]
      exact ⟨h3, by rw [h4]; exact h2⟩
    · rw [if_neg e] at hn
      rw [upd_other _ _ e]
      exact h.sin l k n hl hk hn
  · rw [hsl l k hl hk]
    by_cases e : s.th (l, k) = t
    · rw [if_pos e]
      refine nodup_map_on (h.snd l k hl hk) fun a ha b hb he => ?_
      obtain ⟨h1, h2⟩ := h.sin l k a hl hk ha
      obtain ⟨h3, h4⟩ := h.sin l k b hl hk hb
      rw [e] at h1 h2 h3 h4
      exact movedTo_inj h1 h3 h2 h4 he
    · rw [if_neg e]
      exact h.snd l k hl hk
  · rw [hsl l k hl hk] at hn
    rw [hsl l' k' hl' hk'] at hn'
    have he' : s.th (l, k) = s.th (l', k') := he
    by_cases e : s.th (l, k) = t
    · rw [if_pos e] at hn
      rw [if_pos (he'.symm.trans e)] at hn'
      obtain ⟨a, ha, rfl⟩ := List.mem_map.1 hn
      obtain ⟨b, hb, hab⟩ := List.mem_map.1 hn'
      obtain ⟨h1, h2⟩ := h.sin l k a hl hk ha
      obtain ⟨h3, h4⟩ := h.sin l' k' b hl' hk' hb
      rw [e] at h1 h2
      rw [← he', e] at h3 h4
      have := movedTo_inj h1 h3 h2 h4 hab.symm
      subst this
      exact h.sdj l k l' k' a hl hl' hk hk' he' ha hb
    · rw [if_neg e] at hn
      rw [if_neg (fun h => e (he'.trans h))] at hn'
      exact h.sdj l k l' k' n hl hl' hk hk' he' hn hn'
  · have hk' : s.hn l ≤ k := hk
    have : (Cmp s t v).sl (l, k) = s.sl (l, k) := if_neg (fun h => by have := h.2.1; simp at this; omega)
    rw [this]
    exact h.room l k hl hk'
  · rw [hxk] at hn ⊢
    by_cases e : u = t
    · subst e
      rw [upd_same] at hn ⊢
      exact liveK_kinds (fun n hn => h.kd u n hu hn) n hn
    · rw [upd_other _ _ e] at hn ⊢
      exact h.kd u n hu hn
  · have e : (8 : Nat) ≠ t := by omega
    show upd s.xv t v 8 = nilS ∧ upd s.xk t (liveK (s.xk t)) 8 = []
    rw [upd_other _ _ e, upd_other _ _ e]
    exact h.b8
  · rw [hxk]
    by_cases e : u = t
    · subst e
      rw [upd_same]
      exact Nat.le_trans (List.length_filter_le _ _) (h.zx u hu)
    · rw [upd_other _ _ e]
      exact h.zx u hu
  · show (if s.th (l, k) = t ∧ k < s.hn l ∧ l ≤ 2 then (s.sl (l, k)).map (movedTo (s.xk t)) else s.sl (l, k)).length ≤ N
    by_cases e : s.th (l, k) = t ∧ k < s.hn l ∧ l ≤ 2
    · rw [if_pos e]
      simpa using h.zs l k hl
    · rw [if_neg e]
      exact h.zs l k hl

theorem getD_append_left {A B : List Nat} {i : Nat} (h : i < A.length) : (A ++ B).getD i 0 = A.getD i 0 := by
  simp [List.getD, List.getElem?_append_left h]

theorem getD_append_last (A : List Nat) (b : Nat) : (A ++ [b]).getD A.length 0 = b := by simp [List.getD]

/-- A new hold. -/
theorem Inv.start {N : Nat} {s s' : St} (h : Inv N s) {t l : Nat} (ht : t ≤ 2) (hl : l ≤ 2) (hno : ∀ k, k < s.hn l → s.th (l, k) ≠ t) (e1 : s'.hn = upd s.hn l (s.hn l + 1)) (e2 : s'.th (l, s.hn l) = t) (e3 : s'.pl (l, s.hn l) = (s.ql t).length) (e4 : ∀ p : Nat × Nat, p.1 ≠ l ∨ p.2 < s.hn l → s'.th p = s.th p ∧ s'.pl p = s.pl p)
    (e5 : s'.ql = upd s.ql t (s.ql t ++ [l])) (e6 : s'.sl = s.sl) (e7 : s'.pd = s.pd) (e8 : s'.xk = s.xk) (e9 : s'.ph = s.ph) (e10 : s'.ct = s.ct) (e11 : s'.qv 5 = s.qv 5) (e12 : s'.xv = s.xv) (e13 : s'.pz = s.pz) : Inv (N + 1) s' := by
  have hcase : ∀ l' k, k < s'.hn l' → (l' = l ∧ k = s.hn l) ∨ (k < s.hn l' ∧ s'.th (l', k) = s.th (l', k) ∧ s'.pl (l', k) = s.pl (l', k)) := fun l' k hk => by
    rw [e1] at hk
    by_cases e : l' = l
    · subst e
      rw [upd_same] at hk
      by_cases ek : k = s.hn l'
      · exact .inl ⟨rfl, ek⟩
      · exact .inr ⟨by omega, e4 (l', k) (.inr (by simp; omega))⟩
    · rw [upd_other _ _ e] at hk
      exact .inr ⟨hk, e4 (l', k) (.inl e)⟩
  have hold : ∀ l' k, k < s.hn l' → k < s'.hn l' ∧ s'.th (l', k) = s.th (l', k) ∧ s'.pl (l', k) = s.pl (l', k) := fun l' k hk => by
    refine ⟨?_, e4 (l', k) ?_⟩
    · rw [e1]
      by_cases e : l' = l
      · subst e
        rw [upd_same]
        omega
      · rw [upd_other _ _ e]
        exact hk
    · by_cases e : l' = l
      · subst e
        exact .inr hk
      · exact .inl e
  have hnew : s.hn l < s'.hn l := by rw [e1, upd_same]; omega
  have hroom := h.room l (s.hn l) hl (Nat.le_refl _)
  have hql : ∀ u, u ≠ t → s'.ql u = s.ql u := fun u hu => by rw [e5, upd_other _ _ hu]
  have hqt : s'.ql t = s.ql t ++ [l] := by rw [e5, upd_same]
  have hlen : ∀ u, (s.ql u).length ≤ (s'.ql u).length ∧ ∀ i, i < (s.ql u).length → (s'.ql u).getD i 0 = (s.ql u).getD i 0 := fun u => by
    by_cases e : u = t
    · subst e
      rw [hqt]
      exact ⟨by simp, fun i hi => getD_append_left hi⟩
    · rw [hql u e]
      exact ⟨Nat.le_refl _, fun _ _ => rfl⟩
  refine ⟨fun l' k hl' hk => ?_, fun l' k k' hl' hk hk' he => ?_, fun u i hu hi => ?_, fun l' k hl' hk => ?_, fun l' k n hl' hk hn => ?_, fun l' k hl' hk => ?_, fun l1 k1 l2 k2 n h1 h2 hk1 hk2 he hn1 hn2 => ?_, fun l' k hl' hk => ?_, fun l' k a hl' hk ha => ?_, fun l' k hl' hk => ?_, fun l' k k' a hl' hk hk' ha ha' => ?_, ?_, ?_, ?_, ?_, ?_, ?_, fun u hu => ?_, fun l' hl' => ?_, fun l' k hl' => ?_, fun l' k hl' => ?_, ?_⟩
  · rcases hcase l' k hk with ⟨rfl, rfl⟩ | ⟨hk', a1, _⟩
    · rw [e2]; exact ht
    · rw [a1]; exact h.thr l' k hl' hk'
  · rcases hcase l' k hk with ⟨rfl, rfl⟩ | ⟨hk1, a1, _⟩
    · rcases hcase l' k' hk' with ⟨_, rfl⟩ | ⟨hk2, a2, _⟩
      · rfl
      · rw [e2, a2] at he
        exact absurd he.symm (hno k' hk2)
    · rcases hcase l' k' hk' with ⟨rfl, rfl⟩ | ⟨hk2, a2, _⟩
      · rw [e2, a1] at he
        exact absurd he (hno k hk1)
      · rw [a1, a2] at he
        exact h.thd l' k k' hl' hk1 hk2 he
  · by_cases e : u = t
    · subst e
      rw [hqt] at hi
      simp at hi
      by_cases ei : i = (s.ql u).length
      · subst ei
        refine ⟨l, s.hn l, ?_, hl, hnew, e2, e3⟩
        rw [hqt]
        exact getD_append_last _ _
      · obtain ⟨l', k, b1, b2, b3, b4, b5⟩ := h.lk u i hu (by omega)
        obtain ⟨c1, c2, c3⟩ := hold l' k b3
        exact ⟨l', k, by rw [(hlen u).2 i (by omega)]; exact b1, b2, c1, c2.trans b4, c3.trans b5⟩
    · rw [hql u e] at hi
      obtain ⟨l', k, b1, b2, b3, b4, b5⟩ := h.lk u i hu hi
      obtain ⟨c1, c2, c3⟩ := hold l' k b3
      exact ⟨l', k, by rw [hql u e]; exact b1, b2, c1, c2.trans b4, c3.trans b5⟩
  · rcases hcase l' k hk with ⟨rfl, rfl⟩ | ⟨hk1, a1, a2⟩
    · rw [e2, e3, hqt]
      exact ⟨by simp, getD_append_last _ _⟩
    · obtain ⟨b1, b2⟩ := h.kl l' k hl' hk1
      rw [a1, a2]
      exact ⟨Nat.lt_of_lt_of_le b1 (hlen _).1, by rw [(hlen _).2 _ b1]; exact b2⟩
  · rw [e6] at hn
    rcases hcase l' k hk with ⟨rfl, rfl⟩ | ⟨hk1, a1, _⟩
    · rw [hroom.1] at hn
      simp at hn
    · rw [a1, e8]
      exact h.sin l' k n hl' hk1 hn
  · rw [e6]
    rcases hcase l' k hk with ⟨rfl, rfl⟩ | ⟨hk1, _⟩
    · rw [hroom.1]
      simp
    · exact h.snd l' k hl' hk1
  · rw [e6] at hn1 hn2
    rcases hcase l1 k1 hk1 with ⟨rfl, rfl⟩ | ⟨q1, a1, _⟩
    · rw [hroom.1] at hn1
      simp at hn1
    · rcases hcase l2 k2 hk2 with ⟨rfl, rfl⟩ | ⟨q2, a2, _⟩
      · rw [hroom.1] at hn2
        simp at hn2
      · rw [a1, a2] at he
        exact h.sdj l1 k1 l2 k2 n h1 h2 q1 q2 he hn1 hn2
  · rw [e6, e7]
    refine h.room l' k hl' ?_
    rw [e1] at hk
    by_cases e : l' = l
    · subst e
      rw [upd_same] at hk
      omega
    · rwa [upd_other _ _ e] at hk
  · rw [e7] at ha
    rw [e9]
    rcases hcase l' k hk with ⟨rfl, rfl⟩ | ⟨hk1, _⟩
    · rw [hroom.2] at ha
      simp at ha
    · exact h.pin l' k a hl' hk1 ha
  · rw [e7]
    rcases hcase l' k hk with ⟨rfl, rfl⟩ | ⟨hk1, _⟩
    · rw [hroom.2]
      simp
    · exact h.pnd l' k hl' hk1
  · rw [e7] at ha ha'
    rcases hcase l' k hk with ⟨rfl, rfl⟩ | ⟨hk1, _⟩
    · rw [hroom.2] at ha
      simp at ha
    · rcases hcase l' k' hk' with ⟨rfl, rfl⟩ | ⟨hk2, _⟩
      · rw [hroom.2] at ha'
        simp at ha'
      · exact h.pdj l' k k' a hl' hk1 hk2 ha ha'
  · rw [hql 3 (by omega), e10]
    exact h.cin
  · rw [hql 3 (by omega), e10]
    exact h.cct
  · rw [e8]
    exact h.kd
  · rw [e11, hql 5 (by omega)]
    exact h.b5
  · rw [e12, e8]
    exact h.b8
  · rw [e8]
    exact fun u hu => Nat.le_succ_of_le (h.zx u hu)
  · by_cases e : u = t
    · subst e
      rw [hqt]
      have := h.zq u hu
      simp
      omega
    · rw [hql u e]
      exact Nat.le_succ_of_le (h.zq u hu)
  · rw [e1]
    have := h.zh l' hl'
    by_cases e : l' = l
    · subst e
      rw [upd_same]
      omega
    · rw [upd_other _ _ e]
      omega
  · rw [e6]
    exact Nat.le_succ_of_le (h.zs l' k hl')
  · rw [e7]
    exact Nat.le_succ_of_le (h.zp l' k hl')
  · rw [e13]
    exact Nat.le_succ_of_le h.zz

/-- The last slot of a hold is dropped. -/
theorem Inv.dropSlot {N : Nat} {s : St} (h : Inv N s) {t l k n : Nat} {A K' : List Nat} (ht : t ≤ 2) (hl : l ≤ 2) (hk : k < s.hn l) (hth : s.th (l, k) = t) (hsl : s.sl (l, k) = A ++ [n]) (hd : Dropped (s.xk t) K' n) (v : Value) :
    Inv N { s with xv := upd s.xv t v, xk := upd s.xk t K', sl := upd s.sl (l, k) A } := by
  have hnA : n ∉ A ∧ A.Nodup := by
    have := h.snd l k hl hk
    rw [hsl] at this
    have := List.nodup_append.1 this
    exact ⟨fun hn => this.2.2 n hn n (by simp) rfl, this.1⟩
  have hsub : ∀ p m, m ∈ upd s.sl (l, k) A p → m ∈ s.sl p := fun p m hm => by
    by_cases e : p = (l, k)
    · subst e
      rw [upd_same] at hm
      rw [hsl]
      simp [hm]
    · rwa [upd_other _ _ e] at hm
  have hmem : n ∈ s.sl (l, k) := by rw [hsl]; simp
  refine ⟨h.thr, h.thd, h.lk, h.kl, fun l' k' m hl' hk' hm => ?_, fun l' k' hl' hk' => ?_, fun l1 k1 l2 k2 m h1 h2 hk1 hk2 he hn1 hn2 => h.sdj l1 k1 l2 k2 m h1 h2 hk1 hk2 he (hsub _ _ hn1) (hsub _ _ hn2), fun l' k' hl' hk' => ?_, h.pin, h.pnd, h.pdj, h.cin, h.cct, fun u m hu hm => ?_, h.b5, ?_, fun u hu => ?_, h.zq, h.zh, fun l' k' hl' => ?_, h.zp, h.zz⟩
  · have hm' := hsub _ _ hm
    obtain ⟨b1, b2⟩ := h.sin l' k' m hl' hk' hm'
    show m < (upd s.xk t K' (s.th (l', k'))).length ∧ (upd s.xk t K' (s.th (l', k'))).getD m 0 ≠ 2
    by_cases e : s.th (l', k') = t
    · rw [e] at b1 b2 ⊢
      rw [upd_same]
      have hne : m ≠ n := fun emn => by
        subst emn
        by_cases ep : (l', k') = (l, k)
        · have hm2 : m ∈ upd s.sl (l, k) A (l', k') := hm
          rw [ep, upd_same] at hm2
          exact hnA.1 hm2
        · have el := h.sdj l' k' l k m hl' hl hk' hk (e.trans hth.symm) hm' hmem
          subst el
          have := h.thd l' k' k hl' hk' hk (e.trans hth.symm)
          subst this
          exact ep rfl
      obtain ⟨c1, c2⟩ := hd.stays b1 hne b2
      exact ⟨c1, by rw [c2]; exact b2⟩
    · rw [upd_other _ _ e]
      exact ⟨b1, b2⟩
  · show (upd s.sl (l, k) A (l', k')).Nodup
    by_cases e : (l', k') = (l, k)
    · rw [e, upd_same]
      exact hnA.2
    · rw [upd_other _ _ e]
      exact h.snd l' k' hl' hk'
  · show upd s.sl (l, k) A (l', k') = [] ∧ _
    have e : (l', k') ≠ (l, k) := fun e => by
      simp at e
      obtain ⟨rfl, rfl⟩ := e
      have : s.hn l' ≤ k' := hk'
      omega
    rw [upd_other _ _ e]
    exact h.room l' k' hl' hk'
  · show (upd s.xk t K' u).getD m 0 ≤ 2
    have hm' : m < (upd s.xk t K' u).length := hm
    by_cases e : u = t
    · subst e
      rw [upd_same] at hm' ⊢
      exact hd.kinds (fun n hn => h.kd u n hu hn) m hm'
    · rw [upd_other _ _ e] at hm' ⊢
      exact h.kd u m hu hm'
  · have e : (8 : Nat) ≠ t := by omega
    show upd s.xv t v 8 = nilS ∧ upd s.xk t K' 8 = []
    rw [upd_other _ _ e, upd_other _ _ e]
    exact h.b8
  · show (upd s.xk t K' u).length ≤ N
    by_cases e : u = t
    · subst e
      rw [upd_same]
      exact Nat.le_trans hd.length (h.zx u hu)
    · rw [upd_other _ _ e]
      exact h.zx u hu
  · show (upd s.sl (l, k) A (l', k')).length ≤ N
    by_cases e : (l', k') = (l, k)
    · rw [e, upd_same]
      have := h.zs l k hl
      rw [hsl] at this
      simp at this
      omega
    · rw [upd_other _ _ e]
      exact h.zs l' k' hl'

/-- A slot is added to a hold. -/
theorem Inv.addSlot {N : Nat} {s : St} (h : Inv N s) {t l k kd : Nat} (ht : t ≤ 2) (hl : l ≤ 2) (hk : k < s.hn l) (hth : s.th (l, k) = t) (hkd : kd ≤ 1) (v : Value) (sv' : Nat × Nat → Value) :
    Inv (N + 1) { s with xv := upd s.xv t v, xk := upd s.xk t (s.xk t ++ [kd]), sl := upd s.sl (l, k) (s.sl (l, k) ++ [(s.xk t).length]), sv := sv' } := by
  have hx : ∀ u m, m < (s.xk u).length → m < (upd s.xk t (s.xk t ++ [kd]) u).length ∧ (upd s.xk t (s.xk t ++ [kd]) u).getD m 0 = (s.xk u).getD m 0 := fun u m hm => by
    by_cases e : u = t
    · subst e
      rw [upd_same]
      exact ⟨by simp; omega, getD_append_left hm⟩
    · rw [upd_other _ _ e]
      exact ⟨hm, rfl⟩
  have hin : ∀ p m, m ∈ upd s.sl (l, k) (s.sl (l, k) ++ [(s.xk t).length]) p → m ∈ s.sl p ∨ (p = (l, k) ∧ m = (s.xk t).length) := fun p m hm => by
    by_cases e : p = (l, k)
    · subst e
      rw [upd_same] at hm
      simp at hm
      rcases hm with hm | hm
      · exact .inl hm
      · exact .inr ⟨rfl, hm⟩
    · rw [upd_other _ _ e] at hm
      exact .inl hm
  have hnew : ∀ l' k', l' ≤ 2 → k' < s.hn l' → s.th (l', k') = t → (s.xk t).length ∉ s.sl (l', k') := fun l' k' hl' hk' he hm => by
    have := (h.sin l' k' _ hl' hk' hm).1
    rw [he] at this
    omega
  refine ⟨h.thr, h.thd, h.lk, h.kl, fun l' k' m hl' hk' hm => ?_, fun l' k' hl' hk' => ?_, fun l1 k1 l2 k2 m h1 h2 hk1 hk2 he hn1 hn2 => ?_, fun l' k' hl' hk' => ?_, h.pin, h.pnd, h.pdj, h.cin, h.cct, fun u m hu hm => ?_, h.b5, ?_, fun u hu => ?_, fun u hu => Nat.le_succ_of_le (h.zq u hu), fun u hu => Nat.le_succ_of_le (h.zh u hu), fun l' k' hl' => ?_, fun l' k' hl' => Nat.le_succ_of_le (h.zp l' k' hl'), Nat.le_succ_of_le h.zz⟩
  · show m < (upd s.xk t (s.xk t ++ [kd]) (s.th (l', k'))).length ∧ (upd s.xk t (s.xk t ++ [kd]) (s.th (l', k'))).getD m 0 ≠ 2
    rcases hin _ _ hm with hm' | ⟨e, rfl⟩
    · obtain ⟨b1, b2⟩ := h.sin l' k' m hl' hk' hm'
      obtain ⟨c1, c2⟩ := hx _ _ b1
      exact ⟨c1, by rw [c2]; exact b2⟩
    · rw [e, hth, upd_same, getD_append_last]
      exact ⟨by simp, by omega⟩
  · show (upd s.sl (l, k) (s.sl (l, k) ++ [(s.xk t).length]) (l', k')).Nodup
    by_cases e : (l', k') = (l, k)
    · rw [e, upd_same]
      refine List.nodup_append.2 ⟨h.snd l k hl hk, by simp, fun a ha b hb => ?_⟩
      simp at hb
      subst hb
      exact fun e2 => hnew l k hl hk hth (e2 ▸ ha)
    · rw [upd_other _ _ e]
      exact h.snd l' k' hl' hk'
  · have he' : s.th (l1, k1) = s.th (l2, k2) := he
    rcases hin _ _ hn1 with hm1 | ⟨e1, em1⟩
    · rcases hin _ _ hn2 with hm2 | ⟨e2, em2⟩
      · exact h.sdj l1 k1 l2 k2 m h1 h2 hk1 hk2 he' hm1 hm2
      · rw [e2, hth] at he'
        rw [em2] at hm1
        exact absurd hm1 (hnew l1 k1 h1 hk1 he')
    · rcases hin _ _ hn2 with hm2 | ⟨e2, em2⟩
      · rw [e1, hth] at he'
        rw [em1] at hm2
        exact absurd hm2 (hnew l2 k2 h2 hk2 he'.symm)
      · have := e1.trans e2.symm
        simp at this
        exact this.1
  · show upd s.sl (l, k) _ (l', k') = [] ∧ _
    have e : (l', k') ≠ (l, k) := fun e => by
      simp at e
      obtain ⟨rfl, rfl⟩ := e
      have : s.hn l' ≤ k' := hk'
      omega
    rw [upd_other _ _ e]
    exact h.room l' k' hl' hk'
  · show (upd s.xk t (s.xk t ++ [kd]) u).getD m 0 ≤ 2
    have hm' : m < (upd s.xk t (s.xk t ++ [kd]) u).length := hm
    by_cases e : u = t
    · subst e
      rw [upd_same] at hm' ⊢
      simp at hm'
      by_cases em : m = (s.xk u).length
      · rw [em, getD_append_last]
        omega
      · rw [getD_append_left (by omega)]
        exact h.kd u m hu (by omega)
    · rw [upd_other _ _ e] at hm' ⊢
      exact h.kd u m hu hm'
  · have e : (8 : Nat) ≠ t := by omega
    show upd s.xv t v 8 = nilS ∧ upd s.xk t _ 8 = []
    rw [upd_other _ _ e, upd_other _ _ e]
    exact h.b8
  · show (upd s.xk t (s.xk t ++ [kd]) u).length ≤ N + 1
    by_cases e : u = t
    · subst e
      rw [upd_same]
      have := h.zx u hu
      simp
      omega
    · rw [upd_other _ _ e]
      exact Nat.le_succ_of_le (h.zx u hu)
  · show (upd s.sl (l, k) (s.sl (l, k) ++ [(s.xk t).length]) (l', k')).length ≤ N + 1
    by_cases e : (l', k') = (l, k)
    · rw [e, upd_same]
      have := h.zs l k hl
      simp
      omega
    · rw [upd_other _ _ e]
      exact Nat.le_succ_of_le (h.zs l' k' hl')

#print axioms Inv.addSlot
end Go.Proofs.Ybulkbzhm
