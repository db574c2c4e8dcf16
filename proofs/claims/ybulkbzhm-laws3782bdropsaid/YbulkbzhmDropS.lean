/-
  dropNested: the states on the way.
-/
import Derived.Test.YbulkbzhmDropR
namespace Go.Proofs.Ybulkbzhm
set_option linter.unusedSectionVars false
variable [Base]
open Go.RowKit Go.Maps
open Go.WideShapes (add_plain)

/-- The plain state in mid-drop. -/
def Vst (s : St) (p : Nat × Nat) (t : Nat) (xv' : Nat → Value) (K A P : List Nat) (z : Nat) (f : Int → Bool) : St := { s with xv := xv', xk := upd s.xk t K, sl := upd s.sl p A, pd := upd s.pd p P, pz := z, ph := f }

/-- What the memory holds meanwhile. -/
def Rst (s : St) (t : Nat) (qv' : Nat → Value) (ql' : Nat → List Nat) (pl' : Nat × Nat → Nat) (xv' : Nat → Value) (K : List Nat) (z : Nat) (f : Int → Bool) : St := { s with qv := qv', ql := ql', pl := pl', xv := xv', xk := upd s.xk t K, pz := z, ph := f }

section
variable {w : World} {s : St} {N TS t l k n z : Nat} {qv' xv' : Nat → Value} {ql' : Nat → List Nat} {pl' : Nat × Nat → Nat} {K A P : List Nat} {f : Int → Bool}

theorem Vst.start (s : St) (l k t : Nat) : Vst s (l, k) t s.xv (s.xk t) (s.sl (l, k)) (s.pd (l, k)) s.pz s.ph = s := by
  unfold Vst
  rw [upd_self, upd_self, upd_self]

theorem Rst.start (s : St) (t : Nat) (qv' : Nat → Value) (ql' : Nat → List Nat) (pl' : Nat × Nat → Nat) : Rst s t qv' ql' pl' s.xv (s.xk t) s.pz s.ph = { s with qv := qv', ql := ql', pl := pl' } := by
  unfold Rst
  rw [upd_self]

/-- x.drop(n). -/
theorem drop_step (hR : Rep w (Rst s t qv' ql' pl' xv' K z f)) (hI : Inv N (Vst s (l, k) t xv' K (A ++ [n]) P z f)) (hN : N ≤ 5000) (hT : s.T = some TS) (ht : t ≤ 2) (hl : l ≤ 2) (hk : k < s.hn l) (hth : s.th (l, k) = t) :
    Calls Yba.prog 25 #[.pointer (some ⟨TS, t * 8, none⟩), .int .i32 (n : Int)] w fun e w' => e = .returned (.tuple #[]) ∧ ∃ xv2 K2, Rep w' (Rst s t qv' ql' pl' xv2 K2 z f) ∧ Inv N (Vst s (l, k) t xv2 K2 A P z f) ∧ (liveK K2).length + 1 = (liveK K).length ∧ Ch Et w w' := by
  obtain ⟨hin, h2⟩ := hI.sin l k n hl hk (by show n ∈ upd s.sl (l, k) (A ++ [n]) (l, k); rw [upd_same]; simp)
  have e1 : (Vst s (l, k) t xv' K (A ++ [n]) P z f).xk ((Vst s (l, k) t xv' K (A ++ [n]) P z f).th (l, k)) = K := by
    show upd s.xk t K (s.th (l, k)) = K
    rw [hth, upd_same]
  rw [e1] at hin h2
  have hz : K.length ≤ N := by
    have : (upd s.xk t K t).length ≤ N := hI.zx t ht
    rwa [upd_same] at this
  have hkd : K.getD n 0 ≤ 2 := by
    have : (upd s.xk t K t).getD n 0 ≤ 2 := hI.kd t n ht (by show n < (upd s.xk t K t).length; rw [upd_same]; exact hin)
    rwa [upd_same] at this
  have hP0 : ThrP w TS xv' (upd s.xk t K) qv' := hR.thrP hT
  refine (ndrop_any hP0 t ht (by rw [upd_same]; omega) n (K.getD n 0) (by rw [upd_same]; exact hin) (by rw [upd_same]) (by omega)).mono ?_
  rintro e w' ⟨rfl, v', K2, hD, hP, hC⟩
  rw [upd_same] at hD
  rw [upd_upd] at hP
  refine ⟨rfl, upd xv' t v', K2, hR.mkThr hC hT hP, ?_, hD.live hin h2, hC⟩
  have := hI.dropSlot (A := A) (K' := K2) ht hl hk hth (upd_same _ _ _) (by show Dropped (upd s.xk t K t) K2 n; rw [upd_same]; exact hD) v'
  simp only [Vst, upd_upd] at this ⊢
  exact this

theorem MapK.pos {pm : Option Nat} (h : MapK w pm z f) {x : Int} (hx : f x = true) : 0 < z := by
  rcases h with ⟨_, _, h2⟩ | ⟨b, D, h0, ho, hsz, hh, _, _⟩
  · rw [h2] at hx
    simp at hx
  · have := Maps.size_del (k := .int .u64 x) (ho.tidy (int_keyed Yba.underlying70))
    rw [hh, hsz, hx] at this
    simp at this
    omega

/-- delete(d.pending, pendingKey(a, l)). -/
theorem del_step {a : Nat} (hR : Rep w (Rst s t qv' ql' pl' xv' K z f)) (hI : Inv N (Vst s (l, k) t xv' K A (a :: P) z f)) (hl : l ≤ 2) (hk : k < s.hn l) :
    a ≤ 3 ∧ 0 < z ∧ ∃ b, s.pm = some b ∧ ∃ w', (∀ ty, (Builtin.delete_ #[54, 70] ty #[.map (some b), .int .u64 ((a : Int) * 4294967296 + (l : Int))]).run Yba.prog w = .ok (.tuple #[]) w') ∧
      Rep w' (Rst s t qv' ql' pl' xv' K (z - 1) (fun y => if y = key a l then false else f y)) ∧ Inv N (Vst s (l, k) t xv' K A P (z - 1) (fun y => if y = key a l then false else f y)) ∧ Ch (fun e => e = 999) w w' := by
  have hpd : (Vst s (l, k) t xv' K A (a :: P) z f).pd (l, k) = a :: P := upd_same _ _ _
  obtain ⟨ha, hph⟩ := hI.pin l k a hl hk (by rw [hpd]; simp)
  have hph' : f (key a l) = true := hph
  have hm0 : MapK w s.pm z f := hR.map
  obtain ⟨b, hb⟩ := hm0.some_of hph'
  have hm1 : MapK w (some b) z f := by rw [← hb]; exact hm0
  obtain ⟨w', hrun, hM, hT⟩ := hm1.del (key_wf ha hl)
  rw [if_pos hph'] at hM
  have hpos := hm0.pos hph'
  have ekey : key a l = (a : Int) * 4294967296 + (l : Int) := by unfold key; omega
  obtain ⟨r1, r2⟩ := hR.mkMap (b := b) hb hT hM
  refine ⟨ha, hpos, b, hb, w', fun ty => by rw [← ekey]; exact hrun ty, r1, ?_, r2⟩
  have := hI.unpend hl hk hpd
  rw [show (Vst s (l, k) t xv' K A (a :: P) z f).ph (key a l) = true from hph', if_pos rfl] at this
  simp only [Vst, upd_upd] at this ⊢
  exact this

theorem swap_at {α : Type} (g : Nat × Nat → α) (l k m : Nat) (z : α) {j : Nat} (hj : j < m) : swap g (l, k) (l, m) z (l, j) = g (l, if j = k then m else j) := by
  unfold swap
  rw [upd_other _ _ (by simp; omega)]
  by_cases e : j = k
  · subst e
    rw [upd_same, if_pos rfl]
  · rw [upd_other _ _ (by simp [e]), if_neg e]

theorem swap_far {α : Type} (g : Nat × Nat → α) {l l' : Nat} (k m : Nat) (z : α) (j : Nat) (hl : l' ≠ l) : swap g (l, k) (l, m) z (l', j) = g (l', j) := by
  unfold swap
  rw [upd_other _ _ (by simp [hl]), upd_other _ _ (by simp [hl])]

/-- The hold is gone. -/
theorem gone_inv (hI : Inv N (Vst s (l, k) t xv' K [] [] z f)) (hp : Placed s t l k pl') (ht : t ≤ 2) (hl : l ≤ 2) (hk : k < s.hn l) (hth : s.th (l, k) = t) (hq5 : qv' 5 = s.qv 5) {g c1 c2 : Nat} {a1 a2 : Option Addr} :
    Inv N (Gone (Rst s t qv' (upd s.ql t (cutAt (s.ql t) (s.pl (l, k)))) pl' xv' K z f) l k g c1 c2 a1 a2) := by
  refine hI.removeHold (s' := Gone (Rst s t qv' (upd s.ql t (cutAt (s.ql t) (s.pl (l, k)))) pl' xv' K z f) l k g c1 c2 a1 a2) ht hl hk hth hp rfl (fun j hj => ?_) (fun l' j hne => ?_) (fun j hj => ?_) rfl rfl rfl rfl rfl rfl hq5
  · have hj' : j < s.hn l - 1 := hj
    have hne : (l, if j = k then s.hn l - 1 else j) ≠ (l, k) := fun e => by
      simp at e
      by_cases ej : j = k
      · rw [if_pos ej] at e
        omega
      · rw [if_neg ej] at e
        exact ej e
    refine ⟨swap_at s.th l k _ _ hj', swap_at pl' l k _ _ hj', ?_, ?_⟩
    · show swap s.sl (l, k) (l, s.hn l - 1) [] (l, j) = upd s.sl (l, k) [] (l, if j = k then s.hn l - 1 else j)
      rw [swap_at _ _ _ _ _ hj', upd_other _ _ hne]
    · show swap s.pd (l, k) (l, s.hn l - 1) [] (l, j) = upd s.pd (l, k) [] (l, if j = k then s.hn l - 1 else j)
      rw [swap_at _ _ _ _ _ hj', upd_other _ _ hne]
  · refine ⟨swap_far s.th _ _ _ _ hne, swap_far pl' _ _ _ _ hne, ?_, ?_⟩
    · show swap s.sl (l, k) (l, s.hn l - 1) [] (l', j) = upd s.sl (l, k) [] (l', j)
      rw [swap_far _ _ _ _ _ hne, upd_other _ _ (by simp [hne])]
    · show swap s.pd (l, k) (l, s.hn l - 1) [] (l', j) = upd s.pd (l, k) [] (l', j)
      rw [swap_far _ _ _ _ _ hne, upd_other _ _ (by simp [hne])]
  · have hj' : s.hn l - 1 ≤ j := hj
    show swap s.sl (l, k) (l, s.hn l - 1) [] (l, j) = [] ∧ swap s.pd (l, k) (l, s.hn l - 1) [] (l, j) = []
    by_cases e : j = s.hn l - 1
    · subst e
      unfold swap
      exact ⟨upd_same _ _ _, upd_same _ _ _⟩
    · have hr := hI.room l j hl (by show s.hn l ≤ j; omega)
      have r1 : upd s.sl (l, k) [] (l, j) = [] := hr.1
      have r2 : upd s.pd (l, k) [] (l, j) = [] := hr.2
      rw [upd_other _ _ (by simp; omega)] at r1 r2
      unfold swap
      rw [upd_other _ _ (by simp; omega), upd_other _ _ (by simp; omega), upd_other _ _ (by simp; omega), upd_other _ _ (by simp; omega)]
      exact ⟨r1, r2⟩

/-- Who holds what behind it. -/
theorem gone_th (hI : Inv N s) (hl : l ≤ 2) (hk : k < s.hn l) (hth : s.th (l, k) = t) (hn' : Nat → Nat) (th' : Nat × Nat → Nat) (e1 : hn' = upd s.hn l (s.hn l - 1)) (e2 : th' = swap s.th (l, k) (l, s.hn l - 1) 0) (l' u : Nat) :
    (∃ j, j < hn' l' ∧ th' (l', j) = u) ↔ (∃ j, j < s.hn l' ∧ s.th (l', j) = u) ∧ ¬ (l' = l ∧ u = t) := by
  subst e1 e2
  by_cases e : l' = l
  · subst e
    rw [upd_same]
    constructor
    · rintro ⟨j, hj, hu⟩
      rw [swap_at _ _ _ _ _ hj] at hu
      refine ⟨⟨_, ?_, hu⟩, fun h => ?_⟩
      · by_cases ej : j = k
        · rw [if_pos ej]; omega
        · rw [if_neg ej]; omega
      · have := hI.thd l' (if j = k then s.hn l' - 1 else j) k hl (by by_cases ej : j = k <;> simp [ej] <;> omega) hk (by rw [hu, h.2, hth])
        by_cases ej : j = k
        · rw [if_pos ej] at this; omega
        · rw [if_neg ej] at this; exact ej this
    · rintro ⟨⟨j, hj, hu⟩, hne⟩
      have hjk : j ≠ k := fun e => hne ⟨rfl, by rw [← hu, e, hth]⟩
      by_cases el : j = s.hn l' - 1
      · refine ⟨k, by omega, ?_⟩
        rw [swap_at _ _ _ _ _ (by omega), if_pos rfl, ← el]
        exact hu
      · refine ⟨j, by omega, ?_⟩
        rw [swap_at _ _ _ _ _ (by omega), if_neg hjk]
        exact hu
  · rw [upd_other _ _ e]
    constructor
    · rintro ⟨j, hj, hu⟩
      rw [swap_far _ _ _ _ _ e] at hu
      exact ⟨⟨j, hj, hu⟩, fun h => e h.1⟩
    · rintro ⟨⟨j, hj, hu⟩, _⟩
      exact ⟨j, hj, by rw [swap_far _ _ _ _ _ e]; exact hu⟩

end

theorem liveK_idem (K : List Nat) : liveK (liveK K) = liveK K := by
  unfold liveK
  rw [List.filter_filter]
  congr 1
  funext k
  simp

#print axioms gone_inv
end Go.Proofs.Ybulkbzhm
