/-
  The map of pending gifts; pend's plain law.
-/
import Derived.Test.YbulkbzhmPure
namespace Go.Proofs.Ybulkbzhm
set_option linter.unusedSectionVars false
variable [Base]
open Go.RowKit Go.Maps
open Go.WideShapes (add_plain)

theorem info75 : (Yba.prog.info? 75).map (fun i => (i.zero, i.size, i.bytes)) = some (some cm0, 3, 24) := by kernel_rfl

theorem zero75 (w : World) : (zeroValue 75).run Yba.prog w = .ok cm0 w := by
  obtain ⟨i, hi, hz, _, _⟩ := info_parts info75
  simp [zeroValue, typeInfo, hi, hz]

theorem key_wf {a l : Nat} (ha : a ≤ 3) (hl : l ≤ 2) : (Lit.int .u64 (key a l)).wf = true := by
  have h1 : a = 0 ∨ a = 1 ∨ a = 2 ∨ a = 3 := by omega
  have h2 : l = 0 ∨ l = 1 ∨ l = 2 := by omega
  rcases h1 with rfl | rfl | rfl | rfl <;> rcases h2 with rfl | rfl | rfl <;> decide

theorem key_inj {a l a' l' : Nat} (hl : l ≤ 2) (hl' : l' ≤ 2) (h : key a l = key a' l') : a = a' ∧ l = l' := by
  unfold key at h
  omega

section
variable {w : World} {b z : Nat} {f : Int → Bool}

theorem MapK.look (h : MapK w (some b) z f) {x : Int} (hw : (Lit.int .u64 x).wf = true) : (Instr.lookup 54 (.map (some b)) (.int .u64 x) true).run Yba.prog w = .ok (.tuple #[cm0, .bool (f x)]) w := by
  rcases h with ⟨h0, _⟩ | ⟨b', D, h0, ho, _, hh, hv, _⟩
  · simp at h0
  · simp at h0
    subst h0
    obtain ⟨v, ps, hrun, hR⟩ := ho.look_ok (int_keyed Yba.underlying70) Yba.underlying54 (zero75 w) (zd := .held cm0) (zp := []) rfl (keyOf_int_mk Yba.underlying70 hw)
    rw [hv] at hR
    simp only [heldE, Option.some.injEq, Prod.mk.injEq, DataW.held.injEq] at hR
    rw [hrun, hh, hR.1]

theorem MapK.look1 (h : MapK w (some b) z f) {x : Int} (hw : (Lit.int .u64 x).wf = true) : (Instr.lookup 54 (.map (some b)) (.int .u64 x) false).run Yba.prog w = .ok cm0 w := by
  rcases h with ⟨h0, _⟩ | ⟨b', D, h0, ho, _, hh, hv, _⟩
  · simp at h0
  · simp at h0
    subst h0
    obtain ⟨v, ps, hrun, hR⟩ := ho.lookup (int_keyed Yba.underlying70) Yba.underlying54 (zero75 w) (zd := .held cm0) (zp := []) rfl (keyOf_int_mk Yba.underlying70 hw)
    rw [hv] at hR
    simp only [heldE, Option.some.injEq, Prod.mk.injEq, DataW.held.injEq] at hR
    rw [hrun, hR.1]

theorem own_tight {D : DataW Value} {n : Nat} (ho : w.ownsMap Yba.prog 70 heldE b n D) (hz : Maps.size D = z) : w.ownsMap Yba.prog 70 heldE b z D := by
  obtain ⟨es, clock, hb, F, hs, rfl⟩ := ho
  refine ⟨es, clock, hb, F, ?_, rfl⟩
  rw [← hz]
  simp [Maps.size, length_sorted]

theorem MapK.put (h : MapK w (some b) z f) (hz : z < maxLen) {x : Int} (hw : (Lit.int .u64 x).wf = true) : ∃ w', (Instr.mapUpdate 54 (.map (some b)) (.int .u64 x) cm0).run Yba.prog w = .ok () w' ∧ MapK w' (some b) (if f x then z else z + 1) (fun y => if y = x then true else f y) ∧ w.mapTurned w' b := by
  rcases h with ⟨h0, _⟩ | ⟨b', D, h0, ho, hsz, hh, hv, hlow⟩
  · simp at h0
  · simp at h0
    subst h0
    obtain ⟨w', hrun, o1, o2⟩ := ho.store (int_keyed Yba.underlying70) Yba.underlying54 hz (keyOf_int_mk Yba.underlying70 hw) (d := .held cm0) (ps := []) (val := cm0) rfl
    have hsz' : Maps.size (D.put (.int .u64 x) (.held cm0)) = if f x then z else z + 1 := by
      rw [Maps.size_put (ho.tidy (int_keyed Yba.underlying70)), hh, hsz]
    refine ⟨w', hrun, .inr ⟨b, _, rfl, own_tight o1 hsz', hsz', fun y => ?_, fun y => ?_, hlow⟩, o2⟩
    · by_cases e : y = x
      · subst e
        rw [Maps.has_put_same ho.isMap (show WideAt.IsKeyLit (.int .u64 y) from trivial)]
        simp
      · rw [Maps.has_put_other (by simpa using e), hh]
        simp [e]
    · by_cases e : y = x
      · subst e
        exact atKey_put_same ho.isMap (show WideAt.IsKeyLit (.int .u64 y) from trivial) _ _
      · rw [atKey_put_other (by simpa using e), hv]

theorem MapK.del (h : MapK w (some b) z f) {x : Int} (hw : (Lit.int .u64 x).wf = true) : ∃ w', (∀ ty, (Builtin.delete_ #[54, 70] ty #[.map (some b), .int .u64 x]).run Yba.prog w = .ok (.tuple #[]) w') ∧ MapK w' (some b) (if f x then z - 1 else z) (fun y => if y = x then false else f y) ∧ w.mapTurned w' b := by
  rcases h with ⟨h0, _⟩ | ⟨b', D, h0, ho, hsz, hh, hv, hlow⟩
  · simp at h0
  · simp at h0
    subst h0
    obtain ⟨w', hrun, o1, o2⟩ := ho.drop (int_keyed Yba.underlying70) Yba.underlying54 (keyOf_int_mk Yba.underlying70 hw) 0
    have hty : ∀ ty, (Builtin.delete_ #[54, 70] ty #[.map (some b), .int .u64 x]).run Yba.prog w = .ok (.tuple #[]) w' := fun ty => hrun
    have hsz' : Maps.size (D.del (.int .u64 x)) = if f x then z - 1 else z := by
      have := Maps.size_del (k := .int .u64 x) (ho.tidy (int_keyed Yba.underlying70))
      rw [hh, hsz] at this
      by_cases e : f x = true
      · simp [e] at this ⊢
        omega
      · simp [e] at this ⊢
        omega
    refine ⟨w', hty, .inr ⟨b, _, rfl, own_tight o1 hsz', hsz', fun y => ?_, fun y => ?_, hlow⟩, o2⟩
    · by_cases e : y = x
      · subst e
        rw [Maps.has_del_same]
        simp
      · rw [Maps.has_del_other (by simpa using e), hh]
        simp [e]
    · by_cases e : y = x
      · subst e
        exact atKey_del_same _
      · rw [atKey_del_other (by simpa using e), hv]

theorem MapK.len {pm : Option Nat} (h : MapK w pm z f) (ty : TypeId) : (Builtin.len_ #[54] ty #[.map pm]).run Yba.prog w = .ok (.int .i64 (z : Int)) w := by
  rcases h with ⟨rfl, rfl, _⟩ | ⟨b', D, rfl, ho, hsz, _⟩
  · exact Maps.len_nil Yba.underlying54 ty
  · rw [ho.len Yba.underlying54 ty, hsz]

theorem MapK.made (w : World) (hB : Base.n ≤ w.heap.size) : MapK (w.alloc (.map #[] 0)) (some w.heap.size) 0 (fun _ => false) :=
  .inr ⟨w.heap.size, .map [], rfl, World.ownsMap_made _ _ _ _, rfl, fun _ => rfl, fun _ => rfl, hB⟩

end

section
variable {w w' : World} {s : St}

/-- The map turns. -/
theorem Rep.mkMap (h : Rep w s) {b z : Nat} {f : Int → Bool} (hpm : s.pm = some b) (ht : w.mapTurned w' b) (hm : MapK w' (some b) z f) : Rep w' { s with pz := z, ph := f } ∧ Ch (fun e => e = 999) w w' := by
  have hc : Ch (fun e => e = 999) w w' := (Ch.refl (fun e => e = 999) w).map ht rfl (by
    rcases hm with ⟨h0, _⟩ | ⟨b', D, h0, _, _, _, _, hlow⟩
    · simp at h0
    · simp at h0
      subst h0
      exact hlow)
  exact ⟨⟨h.d.ch hc (by decide) (by decide) (by decide), h.lock.ch hc (by decide), h.thr.ch hc (by decide) (by decide) (by decide), h.holds.ch hc (by decide), h.room, LRows.chL h.slots hc (by decide), LRows.chL h.pends hc (by decide), LRows.chL h.locks hc (by decide), h.calls.ch hc (by decide), by
    show MapK w' s.pm z f
    rw [hpm]
    exact hm⟩, hc⟩

/-- The map is made. -/
theorem Rep.newMap (h : Rep w s) (hpm : s.pm = none) : Rep ((w.alloc (.map #[] 0)).setCell ⟨s.D, 8, none⟩ (.map (some w.heap.size))) { s with pm := some w.heap.size } ∧ Ch (fun e => e = 56) w ((w.alloc (.map #[] 0)).setCell ⟨s.D, 8, none⟩ (.map (some w.heap.size))) ∧ s.pz = 0 ∧ ∀ x, s.ph x = false := by
  have hA := h.alloc (.map #[] 0)
  obtain ⟨dv, b, sg, st, d7, d8⟩ := hA.d
  have hc : Ch (fun e => e = 56) (w.alloc (.map #[] 0)) ((w.alloc (.map #[] 0)).setCell ⟨s.D, 8, none⟩ (.map (some w.heap.size))) := (Ch.refl (fun e => e = 56) _).setCell b rfl _ _
  have hz : s.pz = 0 ∧ ∀ x, s.ph x = false := by
    rcases h.map with ⟨_, h1, h2⟩ | ⟨b', D, h0, _⟩
    · exact ⟨h1, h2⟩
    · rw [hpm] at h0
      simp at h0
  refine ⟨⟨⟨_, b.set 8 _, by simpa using sg.ch hc (by decide), by simpa using st.ch hc (by decide), by simpa using d7, by simp⟩, hA.lock.ch hc (by decide), hA.thr.ch hc (by decide) (by decide) (by decide), hA.holds.ch hc (by decide), hA.room, LRows.chL hA.slots hc (by decide), LRows.chL hA.pends hc (by decide), LRows.chL hA.locks hc (by decide), hA.calls.ch hc (by decide), ?_⟩, ((Ch.refl (fun e => e = 56) w).alloc _).trans hc, hz⟩
  show MapK _ (some w.heap.size) s.pz s.ph
  have e : s.ph = fun _ => false := funext hz.2
  rw [hz.1, e]
  exact (MapK.made w h.base).ch hc (by decide)

/-- h.pending = append(h.pending, x). -/
theorem Rep.appendPend {w1 : World} (h : Rep w s) {l k g x : Nat} (hv : s.hv l = .slice (some ⟨g, 0, none⟩) (s.hn l) (s.hc l)) (hk : k < s.hc l) (o : Obj) {v7 : Value} (ha : Appended (w.alloc o) w1 63 1 (s.pv (l, k)) v7 (s.pd (l, k)).length (fun _ => .int .u32 (x : Int))) :
    Rep (w1.setCell ⟨g, k * 4 + 3, none⟩ v7) { s with pv := upd s.pv (l, k) v7, pd := upd s.pd (l, k) (s.pd (l, k) ++ [x]) } ∧ Ch (fun e => e = 63 ∨ e = 66) w (w1.setCell ⟨g, k * 4 + 3, none⟩ v7) := by
  have hA := h.alloc o
  have hs1 := LRows.append hA.pends (l, k) x ha
  have r3 : Ch (fun e => e = 63) w w1 := ((Ch.refl (fun e => e = 63) w).alloc o).app (hA.pends.row (l, k)).slice rfl ha
  obtain ⟨q1, q2⟩ := (h.holds.ch r3 (by decide)).setPv hv k v7
  refine ⟨⟨(h.d.ch r3 (by decide) (by decide) (by decide)).ch q2 (by decide) (by decide) (by decide), (h.lock.ch r3 (by decide)).ch q2 (by decide), (h.thr.ch r3 (by decide) (by decide) (by decide)).ch q2 (by decide) (by decide) (by decide), q1, fun l' k' hk' => ?_, LRows.chL (LRows.chL h.slots r3 (by decide)) q2 (by decide), LRows.chL hs1 q2 (by decide), LRows.chL (LRows.chL h.locks r3 (by decide)) q2 (by decide), (h.calls.ch r3 (by decide)).ch q2 (by decide), (h.map.ch r3 (by decide)).ch q2 (by decide)⟩, (r3.mono fun e he => .inl he).trans (q2.mono fun e he => .inr he)⟩
  have hne : (l', k') ≠ (l, k) := fun e => by
    simp at e
    obtain ⟨rfl, rfl⟩ := e
    have : s.hc l' ≤ k' := hk'
    omega
  show _ ∧ upd s.pv (l, k) v7 (l', k') = nilS
  rw [upd_other _ _ hne]
  exact h.room l' k' hk'

end

/-- A pending access is added. -/
theorem Inv.pend {N : Nat} {s : St} (h : Inv N s) {l k a : Nat} (hl : l ≤ 2) (hk : k < s.hn l) (ha : a ≤ 3) (hno : s.ph (key a l) = false) (pv' : Nat × Nat → Value) (pm' : Option Nat) :
    Inv (N + 1) { s with pv := pv', pm := pm', pd := upd s.pd (l, k) (s.pd (l, k) ++ [a]), pz := s.pz + 1, ph := fun y => if y = key a l then true else s.ph y } := by
  have hin : ∀ p m, m ∈ upd s.pd (l, k) (s.pd (l, k) ++ [a]) p → m ∈ s.pd p ∨ (p = (l, k) ∧ m = a) := fun p m hm => by
    by_cases e : p = (l, k)
    · subst e
      rw [upd_same] at hm
      simp at hm
      rcases hm with hm | hm
      · exact .inl hm
      · exact .inr ⟨rfl, hm⟩
    · rw [upd_other _ _ e] at hm
      exact .inl hm
  have hnew : ∀ k', k' < s.hn l → a ∉ s.pd (l, k') := fun k' hk' hm => by
    have := (h.pin l k' a hl hk' hm).2
    rw [hno] at this
    simp at this
  refine ⟨h.thr, h.thd, h.lk, h.kl, h.sin, h.snd, h.sdj, fun l' k' hl' hk' => ?_, fun l' k' m hl' hk' hm => ?_, fun l' k' hl' hk' => ?_, fun l' k1 k2 m hl' hk1 hk2 hm1 hm2 => ?_, h.cin, h.cct, h.kd, h.b5, h.b8, fun u hu => Nat.le_succ_of_le (h.zx u hu), fun u hu => Nat.le_succ_of_le (h.zq u hu), fun u hu => Nat.le_succ_of_le (h.zh u hu), fun l' k' hl' => Nat.le_succ_of_le (h.zs l' k' hl'), fun l' k' hl' => ?_, Nat.succ_le_succ h.zz⟩
  · have e : (l', k') ≠ (l, k) := fun e => by
      simp at e
      obtain ⟨rfl, rfl⟩ := e
      have : s.hn l' ≤ k' := hk'
      omega
    show _ ∧ upd s.pd (l, k) _ (l', k') = []
    rw [upd_other _ _ e]
    exact h.room l' k' hl' hk'
  · show m ≤ 3 ∧ (if key m l' = key a l then true else s.ph (key m l')) = true
    rcases hin _ _ hm with hm' | ⟨e, rfl⟩
    · obtain ⟨b1, b2⟩ := h.pin l' k' m hl' hk' hm'
      refine ⟨b1, ?_⟩
      by_cases e : key m l' = key a l
      · rw [if_pos e]
      · rw [if_neg e]
        exact b2
    · simp at e
      obtain ⟨rfl, rfl⟩ := e
      exact ⟨ha, if_pos rfl⟩
  · show (upd s.pd (l, k) (s.pd (l, k) ++ [a]) (l', k')).Nodup
    by_cases e : (l', k') = (l, k)
    · rw [e, upd_same]
      refine List.nodup_append.2 ⟨h.pnd l k hl hk, by simp, fun x hx y hy => ?_⟩
      simp at hy
      subst hy
      exact fun e2 => hnew k hk (e2 ▸ hx)
    · rw [upd_other _ _ e]
      exact h.pnd l' k' hl' hk'
  · rcases hin _ _ hm1 with hm1' | ⟨e1, em1⟩
    · rcases hin _ _ hm2 with hm2' | ⟨e2, em2⟩
      · exact h.pdj l' k1 k2 m hl' hk1 hk2 hm1' hm2'
      · simp at e2
        obtain ⟨rfl, rfl⟩ := e2
        rw [em2] at hm1'
        exact absurd hm1' (hnew k1 hk1)
    · rcases hin _ _ hm2 with hm2' | ⟨e2, em2⟩
      · simp at e1
        obtain ⟨rfl, rfl⟩ := e1
        rw [em1] at hm2'
        exact absurd hm2' (hnew k2 hk2)
      · simp at e1 e2
        omega
  · show (upd s.pd (l, k) (s.pd (l, k) ++ [a]) (l', k')).length ≤ N + 1
    by_cases e : (l', k') = (l, k)
    · rw [e, upd_same]
      have := h.zp l k hl
      simp
      omega
    · rw [upd_other _ _ e]
      exact Nat.le_succ_of_le (h.zp l' k' hl')

#print axioms Inv.pend
end Go.Proofs.Ybulkbzhm
