/-
  The whole memory of a deferredSections.
-/
import Derived.Test.YbulkbzhmComp
namespace Go.Proofs.Ybulkbzhm
set_option linter.unusedSectionVars false
variable [Base]
open Go.RowKit Go.Maps
open Go.WideShapes (add_plain)

abbrev nilS : Value := .slice none 0 0

/-- What the memory holds. -/
structure St where
  D : Nat
  L : Option Nat
  T : Option Nat
  hv : Nat → Value
  hn : Nat → Nat
  hc : Nat → Nat
  th : Nat × Nat → Nat
  pl : Nat × Nat → Nat
  sv : Nat × Nat → Value
  sl : Nat × Nat → List Nat
  pv : Nat × Nat → Value
  pd : Nat × Nat → List Nat
  ct : Nat → Nat
  xv : Nat → Value
  xk : Nat → List Nat
  qv : Nat → Value
  ql : Nat → List Nat
  cb : Nat
  pm : Option Nat
  pz : Nat
  ph : Int → Bool

/-- The segments of a byNumber: none yet, or one of 64. -/
def Seg (w : World) (v : Value) (b : Option Nat) (e : TypeId) : Prop :=
  (b = none ∧ v = nilS) ∨ ∃ LS SG c sz cs, b = some LS ∧ v = .slice (some ⟨SG, 0, none⟩) 1 c ∧ Blk w SG e sz cs ∧ 0 < sz ∧ cs 0 = .slice (some ⟨LS, 0, none⟩) 64 64

/-- The struct itself. -/
def DP (w : World) (D : Nat) (L T : Option Nat) (q3 : Value) (pm : Option Nat) : Prop :=
  ∃ dv, Blk w D 56 9 dv ∧ Seg w (dv 0) L 121 ∧ Seg w (dv 1) T 123 ∧ dv 7 = q3 ∧ dv 8 = .map pm

/-- The array of locks. -/
def LockP (w : World) (L : Option Nat) (hv : Nat → Value) (ct : Nat → Nat) : Prop :=
  (L = none ∧ ∀ l, l ≤ 2 → hv l = nilS ∧ ct l = 0) ∨ ∃ LS lc, L = some LS ∧ Blk w LS 93 256 lc ∧ ∀ l, l ≤ 2 → lc (l * 4) = hv l ∧ lc (l * 4 + 1) = .int .i64 (ct l : Int)

/-- The array of threads, and all beneath it. -/
def ThrO (w : World) (T : Option Nat) (xv : Nat → Value) (xk : Nat → List Nat) (qv : Nat → Value) : Prop :=
  (T = none ∧ (∀ t, xv t = nilS ∧ xk t = []) ∧ ∀ t, t ≤ 2 → qv t = nilS) ∨ ∃ TS, T = some TS ∧ ThrP w TS xv xk qv

/-- A row of holds: its length, its capacity, its cells. -/
def HRow (w : World) (v : Value) (a : Nat × Nat × (Nat → Value)) : Prop :=
  (v = nilS ∧ a.1 = 0 ∧ a.2.1 = 0) ∨ ∃ g, v = .slice (some ⟨g, 0, none⟩) a.1 a.2.1 ∧ a.1 ≤ a.2.1 ∧ a.2.1 ≤ maxLen ∧ Blk w g 66 (a.2.1 * 4) a.2.2

theorem HRow.loc : Loc 66 HRow := by
  refine ⟨fun {w w' v a} h hb => ?_, fun {w v a g} h hg => ?_⟩
  · rcases h with h | ⟨g, rfl, h1, h2, h3⟩
    · exact .inl h
    · exact .inr ⟨g, rfl, h1, h2, h3.of_block (hb g rfl)⟩
  · rcases h with ⟨rfl, _⟩ | ⟨g', rfl, h1, h2, h3⟩
    · simp [Value.ownBlock] at hg
    · simp [Value.ownBlock] at hg
      subst hg
      exact ⟨_, _, h3⟩

/-- A hold's cells. -/
def HC (c : Nat → Value) (k t p : Nat) (s d : Value) : Prop := c (k * 4) = .int .i64 (t : Int) ∧ c (k * 4 + 1) = .int .i64 (p : Int) ∧ c (k * 4 + 2) = s ∧ c (k * 4 + 3) = d

/-- The holds of every lock, up to the capacity. -/
def HoldP (w : World) (hv : Nat → Value) (hn hc : Nat → Nat) (th pl : Nat × Nat → Nat) (sv pv : Nat × Nat → Value) : Prop :=
  ∃ hx : Nat → Nat → Value, Fam HRow w hv (fun l => (hn l, hc l, hx l)) ∧ ∀ l k, k < hc l → HC (hx l) k (th (l, k)) (pl (l, k)) (sv (l, k)) (pv (l, k))

/-- clockMark{}. -/
def cm0 : Value := .agg #[.int .i64 0, .int .u64 0, .pointer none]

/-- The map of pending gifts: its size, its keys; every element is clockMark{}. -/
def MapK (w : World) (pm : Option Nat) (z : Nat) (h : Int → Bool) : Prop :=
  (pm = none ∧ z = 0 ∧ ∀ x, h x = false) ∨ ∃ b D, pm = some b ∧ w.ownsMap Yba.prog 70 heldE b z D ∧ Maps.size D = z ∧ (∀ x : Int, Maps.has D (.int .u64 x) = h x) ∧ (∀ x : Int, D.atKey (.int .u64 x) (.held cm0) = .held cm0) ∧ Base.n ≤ b

/-- The caller's counter: a block of its own. -/
def CallP (w : World) (cb : Nat) (qv : Nat → Value) : Prop := (∃ a : Int, Blk w cb 3 1 (fun _ => .int .i64 a)) ∧ ∀ i, (qv i).ownBlock ≠ some cb

structure Rep (w : World) (s : St) : Prop where
  d : DP w s.D s.L s.T (s.qv 3) s.pm
  lock : LockP w s.L s.hv s.ct
  thr : ThrO w s.T s.xv s.xk s.qv
  holds : HoldP w s.hv s.hn s.hc s.th s.pl s.sv s.pv
  room : ∀ l k, s.hc l ≤ k → s.sv (l, k) = nilS ∧ s.pv (l, k) = nilS
  slots : LRows w 21 .i32 s.sv s.sl
  pends : LRows w 63 .u32 s.pv s.pd
  locks : LRows w 3 .i64 s.qv s.ql
  calls : CallP w s.cb s.qv
  map : MapK w s.pm s.pz s.ph

theorem Rep.base {w : World} {s : St} (h : Rep w s) : Base.n ≤ w.heap.size := by
  obtain ⟨dv, b, _⟩ := h.d
  exact b.room

section
variable {w w' : World} {E : TypeId → Prop}

theorem Seg.ch {v : Value} {b : Option Nat} {e : TypeId} (h : Seg w v b e) (hc : Ch E w w') (hn : ¬ E e) : Seg w' v b e := by
  rcases h with h | ⟨LS, SG, c, sz, cs, h1, h2, h3, h4, h5⟩
  · exact .inl h
  · exact .inr ⟨LS, SG, c, sz, cs, h1, h2, hc.blk h3 hn, h4, h5⟩

theorem DP.ch {D : Nat} {L T : Option Nat} {q3 : Value} {pm : Option Nat} (h : DP w D L T q3 pm) (hc : Ch E w w') (h1 : ¬ E 56) (h2 : ¬ E 121) (h3 : ¬ E 123) : DP w' D L T q3 pm := by
  obtain ⟨dv, a1, a2, a3, a4⟩ := h
  exact ⟨dv, hc.blk a1 h1, a2.ch hc h2, a3.ch hc h3, a4⟩

theorem LockP.ch {L : Option Nat} {hv : Nat → Value} {ct : Nat → Nat} (h : LockP w L hv ct) (hc : Ch E w w') (h1 : ¬ E 93) : LockP w' L hv ct := by
  rcases h with h | ⟨LS, lc, a1, a2, a3⟩
  · exact .inl h
  · exact .inr ⟨LS, lc, a1, hc.blk a2 h1, a3⟩

theorem ThrP.ch {T : Nat} {xv qv : Nat → Value} {xk : Nat → List Nat} (h : ThrP w T xv xk qv) (hc : Ch E w w') (h1 : ¬ E 104) (h2 : ¬ E 70) (h3 : ¬ E 87) : ThrP w' T xv xk qv := by
  obtain ⟨tc, lv, ⟨b, o, r⟩, big, high⟩ := h
  exact ⟨tc, lv, ⟨hc.blk b h1, fun t ht => (o t ht).turn (Nums.ch hc h2) fun _ _ _ => rfl, r.ch KRow.loc hc h3⟩, big, high⟩

theorem ThrO.ch {T : Option Nat} {xv qv : Nat → Value} {xk : Nat → List Nat} (h : ThrO w T xv xk qv) (hc : Ch E w w') (h1 : ¬ E 104) (h2 : ¬ E 70) (h3 : ¬ E 87) : ThrO w' T xv xk qv := by
  rcases h with h | ⟨TS, a1, a2⟩
  · exact .inl h
  · exact .inr ⟨TS, a1, a2.ch hc h1 h2 h3⟩

theorem HoldP.ch {hv : Nat → Value} {hn hc : Nat → Nat} {th pl : Nat × Nat → Nat} {sv pv : Nat × Nat → Value} (h : HoldP w hv hn hc th pl sv pv) (hk : Ch E w w') (h1 : ¬ E 66) : HoldP w' hv hn hc th pl sv pv := by
  obtain ⟨hx, a1, a2⟩ := h
  exact ⟨hx, a1.ch HRow.loc hk h1, a2⟩

theorem MapK.ch {pm : Option Nat} {z : Nat} {f : Int → Bool} (h : MapK w pm z f) (hc : Ch E w w') (h1 : ¬ E 999) : MapK w' pm z f := by
  rcases h with h | ⟨b, D, a1, ⟨es, clock, hb, r⟩, a3⟩
  · exact .inl h
  · exact .inr ⟨b, D, a1, ⟨es, clock, hc.keep b _ hb h1, r⟩, a3⟩

theorem CallP.ch {cb : Nat} {qv : Nat → Value} (h : CallP w cb qv) (hc : Ch E w w') (h1 : ¬ E 3) : CallP w' cb qv := by
  obtain ⟨⟨a, ha⟩, h2⟩ := h
  exact ⟨⟨a, hc.blk ha h1⟩, h2⟩

theorem LRows.chL {ι : Type} {e : TypeId} {q : IntKind} {v : ι → Value} {L : ι → List Nat} (h : LRows w e q v L) (hc : Ch E w w') (hn : ¬ E e) : LRows w' e q v L := Fam.ch h (LRow.loc e q) hc hn

/-- Nothing of ours has turned. -/
theorem Rep.ch {s : St} (h : Rep w s) (hc : Ch E w w') (hE : ∀ e, E e → e ≠ 56 ∧ e ≠ 121 ∧ e ≠ 123 ∧ e ≠ 93 ∧ e ≠ 104 ∧ e ≠ 70 ∧ e ≠ 87 ∧ e ≠ 66 ∧ e ≠ 21 ∧ e ≠ 63 ∧ e ≠ 3 ∧ e ≠ 999) : Rep w' s := by
  have n : ∀ e, (e = 56 ∨ e = 121 ∨ e = 123 ∨ e = 93 ∨ e = 104 ∨ e = 70 ∨ e = 87 ∨ e = 66 ∨ e = 21 ∨ e = 63 ∨ e = 3 ∨ e = 999) → ¬ E e := fun e he hk => by
    have h12 := hE e hk
    rcases he with rfl | rfl | rfl | rfl | rfl | rfl | rfl | rfl | rfl | rfl | rfl | rfl <;> simp at h12
  exact ⟨h.d.ch hc (n _ (by decide)) (n _ (by decide)) (n _ (by decide)), h.lock.ch hc (n _ (by decide)), h.thr.ch hc (n _ (by decide)) (n _ (by decide)) (n _ (by decide)), h.holds.ch hc (n _ (by decide)), h.room, LRows.chL h.slots hc (n _ (by decide)), LRows.chL h.pends hc (n _ (by decide)), LRows.chL h.locks hc (n _ (by decide)), h.calls.ch hc (n _ (by decide)), h.map.ch hc (n _ (by decide))⟩

theorem Rep.drewN {s : St} (h : Rep w s) (m : Nat) : Rep (w.drewN m) s := h.ch (E := fun _ => False) ((Ch.refl _ w).drewN m) (fun _ h => h.elim)
theorem Rep.drew {s : St} (h : Rep w s) : Rep w.drew s := h.ch (E := fun _ => False) ((Ch.refl _ w).drew) (fun _ h => h.elim)
theorem Rep.alloc {s : St} (h : Rep w s) (o : Obj) : Rep (w.alloc o) s := h.ch (E := fun _ => False) ((Ch.refl _ w).alloc o) (fun _ h => h.elim)

end

/-- Everything that may turn. -/
def Ea (e : TypeId) : Prop := e = 56 ∨ e = 121 ∨ e = 123 ∨ e = 93 ∨ e = 104 ∨ e = 70 ∨ e = 87 ∨ e = 66 ∨ e = 21 ∨ e = 63 ∨ e = 3 ∨ e = 999

/-- byLock.get. -/
theorem get19_rep {w : World} {s : St} (h : Rep w s) (l : Nat) (hl : l ≤ 2) :
    Calls Yba.prog 19 #[.pointer (some ⟨s.D, 0, none⟩), .int .i64 (l : Int)] w fun e w' => ∃ LS, e = .returned (.pointer (some ⟨LS, l * 4, none⟩)) ∧ (∀ x, s.L = some x → x = LS) ∧ Rep w' { s with L := some LS } ∧ Ch (fun e => e = 56 ∨ e = 121 ∨ e = 93) w w' := by
  obtain ⟨dv, b, sg, st, d7, d8⟩ := h.d
  rcases sg with ⟨h0, hd⟩ | ⟨LS, SG, c, sz, cs, h0, hd, k1, k2, k3⟩
  · refine (get19_fresh s.D 0 l dv w hl (by omega) b hd).mono ?_
    rintro e w' ⟨SG, LS, cap, cs, sz, rfl, l1, l2, b1, b2, b3, b4, b5, e1, e2, e3, e4, e5⟩
    have hc : Ch (fun e => e = 56) w w' := ⟨e1, e2, e3, e4, fun g o ho hn => by
      refine (e5 g (Array.getElem?_eq_some_iff.1 ho).1 fun hg => ?_).trans ho
      subst hg
      obtain ⟨o', q1, q2⟩ := b.kind
      rw [ho] at q1
      simp at q1
      subst q1
      exact hn q2, fun g o hk ho => by
      refine (e5 g (Array.getElem?_eq_some_iff.1 ho).1 fun hg => ?_).trans ho
      subst hg
      have := b.low
      omega⟩
    have hc2 : Ch (fun e => e = 56 ∨ e = 121 ∨ e = 93) w w' := hc.mono fun e he => .inl he
    have hl0 : ∀ l, l ≤ 2 → s.hv l = nilS ∧ s.ct l = 0 := by
      rcases h.lock with ⟨_, q⟩ | ⟨LS', _, q, _⟩
      · exact q
      · rw [h0] at q
        simp at q
    refine ⟨LS, rfl, fun x hx => by rw [h0] at hx; simp at hx, ⟨⟨_, b1, .inr ⟨LS, SG, cap, sz, cs, rfl, by simp, b2, b3, b4⟩, by simpa using st.ch hc (by decide), by simpa using d7, by simpa using d8⟩, .inr ⟨LS, zeroL, rfl, b5, fun m hm => ?_⟩, h.thr.ch hc (by decide) (by decide) (by decide), h.holds.ch hc (by decide), h.room, LRows.chL h.slots hc (by decide), LRows.chL h.pends hc (by decide), LRows.chL h.locks hc (by decide), h.calls.ch hc (by decide), h.map.ch hc (by decide)⟩, hc2⟩
    obtain ⟨q1, q2⟩ := hl0 m hm
    have m1 : m * 4 % 4 = 0 := by omega
    have m2 : (m * 4 + 1) % 4 = 1 := by omega
    simp [zeroL, m1, m2, q1, q2]
  · refine (get19_there s.D 0 SG LS c l w hl ((b.cell (by omega)).trans (by rw [hd])) ((k1.cell k2).trans (by rw [k3]))).mono ?_
    rintro e w' ⟨rfl, m, rfl⟩
    have hs : { s with L := some LS } = s := by
      cases s
      simp at h0 ⊢
      exact h0.symm
    refine ⟨LS, rfl, fun x hx => by rw [h0] at hx; simpa using hx.symm, ?_, (Ch.refl _ w).drewN m⟩
    rw [hs]
    exact h.drewN m

/-- byThread.get. -/
theorem get20_rep {w : World} {s : St} (h : Rep w s) (t : Nat) (ht : t ≤ 2) :
    Calls Yba.prog 20 #[.pointer (some ⟨s.D, 1, none⟩), .int .i64 (t : Int)] w fun e w' => ∃ TS, e = .returned (.pointer (some ⟨TS, t * 8, none⟩)) ∧ (∀ x, s.T = some x → x = TS) ∧ Rep w' { s with T := some TS } ∧ Ch (fun e => e = 56 ∨ e = 123 ∨ e = 104) w w' := by
  obtain ⟨dv, b, sg, st, d7, d8⟩ := h.d
  rcases st with ⟨h0, hd⟩ | ⟨TS, SG, c, sz, cs, h0, hd, k1, k2, k3⟩
  · refine (get20_fresh s.D 1 t dv w ht (by omega) b hd).mono ?_
    rintro e w' ⟨SG, TS, cap, cs, sz, rfl, l1, l2, b1, b2, b3, b4, b5, e1, e2, e3, e4, e5⟩
    have hc : Ch (fun e => e = 56) w w' := ⟨e1, e2, e3, e4, fun g o ho hn => by
      refine (e5 g (Array.getElem?_eq_some_iff.1 ho).1 fun hg => ?_).trans ho
      subst hg
      obtain ⟨o', q1, q2⟩ := b.kind
      rw [ho] at q1
      simp at q1
      subst q1
      exact hn q2, fun g o hk ho => by
      refine (e5 g (Array.getElem?_eq_some_iff.1 ho).1 fun hg => ?_).trans ho
      subst hg
      have := b.low
      omega⟩
    have hc2 : Ch (fun e => e = 56 ∨ e = 123 ∨ e = 104) w w' := hc.mono fun e he => .inl he
    have hl0 : (∀ t, s.xv t = nilS ∧ s.xk t = []) ∧ ∀ t, t ≤ 2 → s.qv t = nilS := by
      rcases h.thr with ⟨_, q⟩ | ⟨LS', q, _⟩
      · exact q
      · rw [h0] at q
        simp at q
    refine ⟨TS, rfl, fun x hx => by rw [h0] at hx; simp at hx, ⟨⟨_, b1, by simpa using sg.ch hc (by decide), .inr ⟨TS, SG, cap, sz, cs, rfl, by simp, b2, b3, b4⟩, by simpa using d7, by simpa using d8⟩, h.lock.ch hc (by decide), .inr ⟨TS, rfl, zeroT, fun _ => 0, ⟨b5, fun u hu => ?_, ⟨fun u => .inl (hl0.1 u), fun i j g hi => by rw [(hl0.1 i).1] at hi; simp [Value.ownBlock] at hi⟩⟩, fun u hu => by rw [(hl0.1 u).2]; simp, fun u _ _ => hl0.1 u⟩, h.holds.ch hc (by decide), h.room, LRows.chL h.slots hc (by decide), LRows.chL h.pends hc (by decide), LRows.chL h.locks hc (by decide), h.calls.ch hc (by decide), h.map.ch hc (by decide)⟩, hc2⟩
    have m0 : u * 8 % 8 = 0 := by omega
    have m1 : (u * 8 + 1) % 8 = 1 := by omega
    have m2 : (u * 8 + 2) % 8 = 2 := by omega
    have m3 : (u * 8 + 3) % 8 = 3 := by omega
    have m4 : (u * 8 + 4) % 8 = 4 := by omega
    have m5 : (u * 8 + 5) % 8 = 5 := by omega
    have m6 : (u * 8 + 6) % 8 = 6 := by omega
    have m7 : (u * 8 + 7) % 8 = 7 := by omega
    exact ⟨by simp [zeroT, m0, (hl0.1 u).1], ⟨0, by simp [zeroT, m1], fun _ => rfl⟩, by simp [zeroT, m2], .inl ⟨by simp [zeroT, m3], rfl⟩, .inl ⟨by simp [zeroT, m4], rfl⟩, by simp [zeroT, m5, hl0.2 u hu], by simp [zeroT, m6], by simp [zeroT, m7], by omega⟩
  · refine (get20_there s.D 1 SG TS c t w ht ((b.cell (by omega)).trans (by rw [hd])) ((k1.cell k2).trans (by rw [k3]))).mono ?_
    rintro e w' ⟨rfl, m, rfl⟩
    have hs : { s with T := some TS } = s := by
      cases s
      simp at h0 ⊢
      exact h0.symm
    refine ⟨TS, rfl, fun x hx => by rw [h0] at hx; simpa using hx.symm, ?_, (Ch.refl _ w).drewN m⟩
    rw [hs]
    exact h.drewN m

#print axioms get20_rep
end Go.Proofs.Ybulkbzhm
