/-
  addNested.
-/
import Derived.Test.YbulkbzhmPure
namespace Go.Proofs.Ybulkbzhm
set_option linter.unusedSectionVars false
variable [Base]
open Go.RowKit Go.Maps
open Go.WideShapes (add_plain)

theorem LRow.takeA {w : World} {e : TypeId} {q : IntKind} {a : Option Addr} {n cs j : Nat} {L : List Nat} (h : LRow w e q (.slice a n cs) L) (hj : j ≤ L.length) : LRow w e q (.slice a j cs) (L.take j) := by
  rcases h with ⟨h0, h1⟩ | ⟨g', cap, sz, c, h0, r⟩
  · simp at h0
    obtain ⟨rfl, h2, rfl⟩ := h0
    have : j = 0 := by rw [h1] at hj; simpa using hj
    subst this
    exact .inl ⟨rfl, by simp⟩
  · have h0' := h0
    simp at h0'
    obtain ⟨rfl, rfl, rfl⟩ := h0'
    exact LRow.take (.inr ⟨g', cs, sz, c, rfl, r⟩) hj

section
variable {w w1 : World} {s : St}

/-- One more in a list of locks: the rows. -/
theorem Rep.qAppend (h : Rep w s) (i l : Nat) (o : Obj) {v' : Value} (ha : Appended (w.alloc o) w1 3 1 (s.qv i) v' (s.ql i).length (fun _ => .int .i64 (l : Int))) :
    LRows w1 3 .i64 (upd s.qv i v') (upd s.ql i (s.ql i ++ [l])) ∧ CallP w1 s.cb (upd s.qv i v') ∧ Ch (fun e => e = 3) w w1 := by
  have hA := h.alloc o
  refine ⟨LRows.append hA.locks i l ha, ?_, ((Ch.refl (fun e => e = 3) w).alloc o).app (hA.locks.row i).slice rfl ha⟩
  obtain ⟨⟨a, hb⟩, hown⟩ := hA.calls
  refine ⟨⟨a, hb.of_block (ha.grown.block s.cb hb.lt fun hc => hown i hc.symm)⟩, fun j hj => ?_⟩
  by_cases e : j = i
  · subst e
    rw [upd_same] at hj
    rcases ha.own _ hj with h1 | h1
    · exact hown j h1
    · have := hb.lt
      omega
  · rw [upd_other _ _ e] at hj
    exact hown j hj

/-- A thread's list of locks is stored. -/
theorem ThrP.setQ {T : Nat} {xv qv : Nat → Value} {xk : Nat → List Nat} (h : ThrP w T xv xk qv) {t : Nat} (ht : t ≤ 2) (v : Value) : ThrP (w.setCell ⟨T, t * 8 + 5, none⟩ v) T xv xk (upd qv t v) ∧ Ch (fun e => e = 104) w (w.setCell ⟨T, t * 8 + 5, none⟩ v) := by
  obtain ⟨tc, lv, hq, hbig, hhigh⟩ := h
  have hN : Nums w (w.setCell ⟨T, t * 8 + 5, none⟩ v) := Nums.other ((One.refl T w).setCell _ _) hq.blk (by decide)
  have hr : Fam KRow (w.setCell ⟨T, t * 8 + 5, none⟩ v) (upd xv t (xv t)) (upd xk t (xk t)) := by
    rw [upd_self, upd_self]
    exact hq.rows.of_blocks KRow.loc fun g _ _ hk => heap_setCell_other _ _ _ _ (hk.ne hq.blk (by decide))
  have h1 := hq.one t ht
  have := hq.turn t (hq.blk.set (t * 8 + 5) v) (fun j hj => if_neg (by omega)) hN (q' := v) (lv' := lv t) hr (by
    obtain ⟨c0, c1, c2, c3, c4, c5, c6, c7, hl⟩ := h1
    exact ⟨by simpa using c0, by simpa using c1, by simpa using c2, by simpa using c3.nums hN, by simpa using c4.nums hN, by simp, by simpa using c6, by simpa using c7, hl⟩)
  rw [upd_self, upd_self, upd_self] at this
  exact ⟨⟨_, lv, this, hbig, hhigh⟩, (Ch.refl (fun e => e = 104) w).setCell hq.blk rfl _ _⟩

/-- x.locks.add(l). -/
theorem Rep.locksAdd (h : Rep w s) {TS : Nat} (hT : s.T = some TS) {t l : Nat} (ht : t ≤ 2) (o : Obj) {v' : Value} (ha : Appended (w.alloc o) w1 3 1 (s.qv t) v' (s.ql t).length (fun _ => .int .i64 (l : Int))) :
    Rep (w1.setCell ⟨TS, t * 8 + 5, none⟩ v') { s with qv := upd s.qv t v', ql := upd s.ql t (s.ql t ++ [l]) } ∧ Ch (fun e => e = 3 ∨ e = 104) w (w1.setCell ⟨TS, t * 8 + 5, none⟩ v') := by
  obtain ⟨r1, r2, r3⟩ := h.qAppend t l o ha
  have hP := (h.thrP hT).ch r3 (by decide) (by decide) (by decide)
  obtain ⟨p1, p2⟩ := hP.setQ ht v'
  have hq3 : upd s.qv t v' 3 = s.qv 3 := upd_other _ _ (by omega)
  refine ⟨⟨by
    show DP _ s.D s.L s.T (upd s.qv t v' 3) s.pm
    rw [hq3]
    exact (h.d.ch r3 (by decide) (by decide) (by decide)).ch p2 (by decide) (by decide) (by decide), (h.lock.ch r3 (by decide)).ch p2 (by decide), .inr ⟨TS, hT, p1⟩, (h.holds.ch r3 (by decide)).ch p2 (by decide), h.room, LRows.chL (LRows.chL h.slots r3 (by decide)) p2 (by decide), LRows.chL (LRows.chL h.pends r3 (by decide)) p2 (by decide), LRows.chL r1 p2 (by decide), r2.ch p2 (by decide), (h.map.ch r3 (by decide)).ch p2 (by decide)⟩, (r3.mono fun e he => .inl he).trans (p2.mono fun e he => .inr he)⟩

/-- A hold's cell is set. -/
theorem Rep.mkHold {w' : World} (h : Rep w s) (hc : Ch (fun e => e = 66) w w') {th' pl' : Nat × Nat → Nat} (hh : HoldP w' s.hv s.hn s.hc th' pl' s.sv s.pv) : Rep w' { s with th := th', pl := pl' } :=
  ⟨h.d.ch hc (by decide) (by decide) (by decide), h.lock.ch hc (by decide), h.thr.ch hc (by decide) (by decide) (by decide), hh, h.room, LRows.chL h.slots hc (by decide), LRows.chL h.pends hc (by decide), LRows.chL h.locks hc (by decide), h.calls.ch hc (by decide), h.map.ch hc (by decide)⟩

/-- h.slots = append(h.slots[:j], x). -/
theorem Rep.appendSlot (h : Rep w s) {l k g j x cs : Nat} {a : Option Addr} {L : List Nat} (hv : s.hv l = .slice (some ⟨g, 0, none⟩) (s.hn l) (s.hc l)) (hk : k < s.hc l) (hsl : s.sl (l, k) = L) (hsv : s.sv (l, k) = .slice a L.length cs) (hj : j ≤ L.length) (o : Obj) {v7 : Value} (ha : Appended (w.alloc o) w1 21 1 (.slice a j cs) v7 j (fun _ => .int .i32 (x : Int))) :
    Rep (w1.setCell ⟨g, k * 4 + 2, none⟩ v7) { s with sv := upd s.sv (l, k) v7, sl := upd s.sl (l, k) (L.take j ++ [x]) } ∧ Ch (fun e => e = 21 ∨ e = 66) w (w1.setCell ⟨g, k * 4 + 2, none⟩ v7) := by
  have hA := h.alloc o
  have hlj : (L.take j).length = j := by simp; omega
  have hrow : LRow (w.alloc o) 21 .i32 (.slice a j cs) (L.take j) := by
    have := hA.slots.row (l, k)
    rw [hsv, hsl] at this
    exact this.takeA hj
  have hs0 : LRows (w.alloc o) 21 .i32 (upd s.sv (l, k) (.slice a j cs)) (upd s.sl (l, k) (L.take j)) := Fam.turn hA.slots (LRow.loc 21 .i32) (l, k) hrow (fun _ _ _ => rfl) (fun g' hg' => .inl (by rw [hsv]; cases a <;> exact hg'))
  have ha' : Appended (w.alloc o) w1 21 1 (upd s.sv (l, k) (.slice a j cs) (l, k)) v7 (upd s.sl (l, k) (L.take j) (l, k)).length (fun _ => .int .i32 (x : Int)) := by
    rw [upd_same, upd_same, hlj]
    exact ha
  have hs1 := LRows.append hs0 (l, k) x ha'
  rw [upd_upd, upd_upd, upd_same] at hs1
  have r3 : Ch (fun e => e = 21) w w1 := ((Ch.refl (fun e => e = 21) w).alloc o).app (by
    have := hrow.slice
    rw [hlj] at this
    exact this) rfl ha
  obtain ⟨q1, q2⟩ := (h.holds.ch r3 (by decide)).setSv hv k v7
  refine ⟨⟨(h.d.ch r3 (by decide) (by decide) (by decide)).ch q2 (by decide) (by decide) (by decide), (h.lock.ch r3 (by decide)).ch q2 (by decide), (h.thr.ch r3 (by decide) (by decide) (by decide)).ch q2 (by decide) (by decide) (by decide), q1, fun l' k' hk' => ?_, LRows.chL hs1 q2 (by decide), LRows.chL (LRows.chL h.pends r3 (by decide)) q2 (by decide), LRows.chL (LRows.chL h.locks r3 (by decide)) q2 (by decide), (h.calls.ch r3 (by decide)).ch q2 (by decide), (h.map.ch r3 (by decide)).ch q2 (by decide)⟩, (r3.mono fun e he => .inl he).trans (q2.mono fun e he => .inr he)⟩
  have hne : (l', k') ≠ (l, k) := fun e => by
    simp at e
    obtain ⟨rfl, rfl⟩ := e
    have : s.hc l' ≤ k' := hk'
    omega
  show upd s.sv (l, k) v7 (l', k') = nilS ∧ _
  rw [upd_other _ _ hne]
  exact h.room l' k' hk'

/-- The cells of a hold whose row's block is known. -/
theorem Rep.hcell (h : Rep w s) {l k g : Nat} (hv : s.hv l = .slice (some ⟨g, 0, none⟩) (s.hn l) (s.hc l)) (hk : k < s.hc l) : (∃ c, Blk w g 66 (s.hc l * 4) c) ∧
    w.cell? ⟨g, k * 4, none⟩ = some (.int .i64 (s.th (l, k) : Int)) ∧ w.cell? ⟨g, k * 4 + 1, none⟩ = some (.int .i64 (s.pl (l, k) : Int)) ∧ w.cell? ⟨g, k * 4 + 2, none⟩ = some (s.sv (l, k)) ∧ w.cell? ⟨g, k * 4 + 3, none⟩ = some (s.pv (l, k)) ∧ ∀ i, w.frozen? ⟨g, i, none⟩ = false := by
  obtain ⟨g', c, h1, h2, h3⟩ := h.holds.at hk
  rw [hv] at h1
  simp at h1
  subst h1
  exact ⟨⟨c, h2⟩, h3⟩

end

theorem Ea.of_El {e : TypeId} (h : El e) : Ea e := by
  unfold El at h
  unfold Ea
  rcases h with h | h | h <;> simp [h]
theorem Ea.of_Es {e : TypeId} (h : Es e) : Ea e := by
  unfold Es at h
  unfold Ea
  rcases h with h | h <;> simp [h]
theorem Ea.of_Et {e : TypeId} (h : Et e) : Ea e := by
  unfold Et at h
  unfold Ea
  rcases h with h | h | h <;> simp [h]
theorem Ea.of_Ec {e : TypeId} (h : Ec e) : Ea e := by
  rcases h with h | h
  · exact Ea.of_Et h
  · unfold Ea
    simp [h]

/-- The state in which addNested works: the hold p of t lists L; the virtual list is that of s. -/
def Dirty (s : St) (p : Nat × Nat) (L : List Nat) (B kd : Nat) : St := { s with xv := upd s.xv 8 (.slice (some ⟨B, 0, none⟩) 1 1), xk := upd s.xk 8 [kd], sl := upd s.sl p L }

/-- What addNested knows of its hold. -/
structure At (s0 s : St) (LS TS t l k g : Nat) : Prop where
  D : s.D = s0.D
  cb : s.cb = s0.cb
  L : s.L = some LS
  T : s.T = some TS
  lt : k < s.hn l
  th : s.th (l, k) = t
  hv : s.hv l = .slice (some ⟨g, 0, none⟩) (s.hn l) (s.hc l)

theorem ThrQ.drewN {w : World} {T : Nat} {tc xv qv : Nat → Value} {xk : Nat → List Nat} {lv : Nat → Nat} (h : ThrQ w T tc xv xk qv lv) (m : Nat) : ThrQ (w.drewN m) T tc xv xk qv lv :=
  ⟨h.blk.drewN m, fun u hu => (h.one u hu).turn ((Nums.refl w).drewN m) fun _ _ _ => rfl, h.rows.of_blocks KRow.loc fun _ _ _ _ => rfl⟩

theorem upd_comm {ι α : Type} [DecidableEq ι] (f : ι → α) {i j : ι} (a b : α) (h : i ≠ j) : upd (upd f i a) j b = upd (upd f j b) i a := by
  funext x
  by_cases h1 : x = i
  · have h2 : ¬ x = j := fun e => h (h1.symm.trans e)
    simp [upd, h1, h]
  · simp [upd, h1]

/-- The box of the section as row 8. -/
theorem ThrP.box8 {w : World} {T : Nat} {xv qv : Nat → Value} {xk : Nat → List Nat} (h : ThrP w T xv xk qv) {B : Nat} {since : Int} {kd : Nat} (hb : Blk w B 87 6 (secN since kd)) (hown : ∀ i, (xv i).ownBlock ≠ some B) : ThrP w T (upd xv 8 (.slice (some ⟨B, 0, none⟩) 1 1)) (upd xk 8 [kd]) qv := by
  obtain ⟨tc, lv, ⟨b, o, r⟩, hbig, hhigh⟩ := h
  have hrow : KRow w (.slice (some ⟨B, 0, none⟩) 1 1) [kd] := .inr ⟨B, 1, 6, secN since kd, rfl, Nat.le_refl _, by decide, hb, Nat.le_refl _, fun j hj => by
    have : j = 0 := by simpa using hj
    subst this
    exact ⟨⟨since, rfl⟩, rfl, rfl, rfl, rfl, rfl⟩⟩
  refine ⟨tc, lv, ⟨b, fun u hu => ?_, ⟨fun i => ?_, fun i j g hi hj => ?_⟩⟩, fun u hu => ?_, fun u hu h8 => ?_⟩
  · rw [upd_other _ _ (by omega)]
    exact o u hu
  · by_cases e : i = 8
    · subst e
      rw [upd_same, upd_same]
      exact hrow
    · rw [upd_other _ _ e, upd_other _ _ e]
      exact r.row i
  · by_cases ei : i = 8
    · by_cases ej : j = 8
      · rw [ei, ej]
      · rw [ei, upd_same] at hi
        simp [Value.ownBlock] at hi
        subst hi
        rw [upd_other _ _ ej] at hj
        exact absurd hj (hown j)
    · rw [upd_other _ _ ei] at hi
      by_cases ej : j = 8
      · rw [ej, upd_same] at hj
        simp [Value.ownBlock] at hj
        subst hj
        exact absurd hi (hown i)
      · rw [upd_other _ _ ej] at hj
        exact r.own i j g hi hj
  · rw [upd_other _ _ (by omega)]
    exact hbig u hu
  · rw [upd_other _ _ h8, upd_other _ _ h8]
    exact hhigh u hu h8

/-- The box leaves. -/
theorem ThrP.unbox8 {w : World} {T : Nat} {xv qv : Nat → Value} {xk : Nat → List Nat} {b : Value} {K : List Nat} (h : ThrP w T (upd xv 8 b) (upd xk 8 K) qv) (h8 : xv 8 = nilS) (k8 : xk 8 = []) : ThrP w T xv xk qv := by
  obtain ⟨tc, lv, ⟨b, o, r⟩, hbig, hhigh⟩ := h
  refine ⟨tc, lv, ⟨b, fun u hu => ?_, ⟨fun i => ?_, fun i j g hi hj => ?_⟩⟩, fun u hu => ?_, fun u hu h8' => ?_⟩
  · have := o u hu
    rwa [upd_other _ _ (by omega)] at this
  · by_cases e : i = 8
    · subst e
      rw [h8, k8]
      exact .inl ⟨rfl, rfl⟩
    · have := r.row i
      rwa [upd_other _ _ e, upd_other _ _ e] at this
  · have ei : i ≠ 8 := fun e => by rw [e, h8] at hi; simp [Value.ownBlock] at hi
    have ej : j ≠ 8 := fun e => by rw [e, h8] at hj; simp [Value.ownBlock] at hj
    exact r.own i j g (by rw [upd_other _ _ ei]; exact hi) (by rw [upd_other _ _ ej]; exact hj)
  · have := hbig u hu
    rwa [upd_other _ _ (by omega)] at this
  · have := hhigh u hu h8'
    rwa [upd_other _ _ h8', upd_other _ _ h8'] at this

/-- The box's kind is set. -/
theorem ThrP.kind8 {w : World} {T : Nat} {xv qv : Nat → Value} {xk : Nat → List Nat} {B k0 : Nat} (h : ThrP w T (upd xv 8 (.slice (some ⟨B, 0, none⟩) 1 1)) (upd xk 8 [k0]) qv) (kd : Nat) : ThrP (w.setCell ⟨B, 5, none⟩ (.int .u8 (kd : Int))) T (upd xv 8 (.slice (some ⟨B, 0, none⟩) 1 1)) (upd xk 8 [kd]) qv ∧ Ch Et w (w.setCell ⟨B, 5, none⟩ (.int .u8 (kd : Int))) := by
  obtain ⟨tc, lv, hq, hbig, hhigh⟩ := h
  obtain ⟨q1, q2⟩ := hq.kind (t := 8) (g := B) (n := 1) (cap := 1) (upd_same _ _ _) 0 kd
  have e : upd (upd xk 8 [k0]) 8 ((upd xk 8 [k0] 8).set 0 kd) = upd xk 8 [kd] := by rw [upd_upd, upd_same]; rfl
  rw [e] at q1
  refine ⟨⟨tc, lv, q1, fun u hu => ?_, fun u hu h8 => ?_⟩, q2⟩
  · rw [upd_other _ _ (by omega)]
    have := hbig u hu
    rwa [upd_other _ _ (by omega)] at this
  · have := hhigh u hu h8
    rw [upd_other _ _ h8, upd_other _ _ h8] at this ⊢
    exact this

/-- The box's cells. -/
theorem ThrP.cells8 {w : World} {T : Nat} {xv qv : Nat → Value} {xk : Nat → List Nat} {B kd : Nat} (h : ThrP w T (upd xv 8 (.slice (some ⟨B, 0, none⟩) 1 1)) (upd xk 8 [kd]) qv) : ∃ since : Int, w.cell? ⟨B, 0, none⟩ = some (.int .u64 since) ∧ w.cell? ⟨B, 1, none⟩ = some (.int .u64 0) ∧ w.cell? ⟨B, 2, none⟩ = some (.int .u64 0) ∧ w.cell? ⟨B, 3, none⟩ = some (.pointer none) ∧ w.cell? ⟨B, 4, none⟩ = some (.int .u32 0) ∧ w.cell? ⟨B, 5, none⟩ = some (.int .u8 (kd : Int)) := by
  obtain ⟨tc, lv, hq, hbig, hhigh⟩ := h
  have hr := hq.rows.row 8
  rw [upd_same, upd_same] at hr
  rcases hr with ⟨h0, _⟩ | ⟨g, cap, sz, c, hv, k1, k2, k3, k4, k5⟩
  · simp at h0
  · simp at hv
    obtain ⟨rfl, rfl⟩ := hv
    obtain ⟨⟨s, a0⟩, a1, a2, a3, a4, a5⟩ := k5 0 (by simp)
    simp at a0 a1 a2 a3 a4 a5
    exact ⟨s, (k3.cell (by omega)).trans (by rw [a0]), (k3.cell (by omega)).trans (by rw [a1]), (k3.cell (by omega)).trans (by rw [a2]), (k3.cell (by omega)).trans (by rw [a3]), (k3.cell (by omega)).trans (by rw [a4]), (k3.cell (by omega)).trans (by rw [a5])⟩

attribute [-go_sem] Builtin.append_ in
set_option maxRecDepth 100000 in
set_option maxHeartbeats 4000000 in
theorem addNested_rep {w : World} {s : St} {N : Nat} (h : Rep w s) (hI : Inv N s) (hN : N ≤ 5000) (t l : Nat) (ht : t ≤ 2) (hl : l ≤ 2) (since : Int) :
    Calls Yba.prog 16 #[.pointer (some ⟨s.D, 0, none⟩), .int .i64 (t : Int), .int .i64 (l : Int), .agg #[.int .u64 since, .int .u64 0, .int .u64 0, .pointer none, .int .u32 0, .int .u8 0]] w fun e w' => e = .returned (.tuple #[]) ∧ ∃ s', Rep w' s' ∧ Inv (N + 2) s' ∧ s'.D = s.D ∧ s'.cb = s.cb ∧ Ch Ea w w' := by
  have hA := h.alloc (.cells (secC since 0) 87)
  have bA : Blk (w.alloc (.cells (secC since 0) 87)) w.heap.size 87 6 (secN since 0) := Blk.new w _ 87 h.base rfl fun j hj => by
    have : j = 0 ∨ j = 1 ∨ j = 2 ∨ j = 3 ∨ j = 4 ∨ j = 5 := by omega
    rcases this with rfl | rfl | rfl | rfl | rfl | rfl <;> rfl
  have cA : Ch Ea w (w.alloc (.cells (secC since 0) 87)) := (Ch.refl _ w).alloc _
  have hBo : ∀ i, (s.xv i).ownBlock ≠ some w.heap.size := fun i hi => by
    rcases h.thr with ⟨_, h0, _⟩ | ⟨TS, _, tc, lv, hq, _⟩
    · rw [(h0 i).1] at hi
      simp [Value.ownBlock] at hi
    · obtain ⟨sz, c, hb⟩ := KRow.loc.typed (hq.rows.row i) hi
      exact absurd hb.lt (Nat.lt_irrefl _)
  have cl := get20_rep hA t ht
  unfold secC at hA bA cA cl
  go_enter Yba.func16, Yba.ntmps16
  go_wp2_with fail
  generalize w.heap.size = B at bA hBo ⊢
  refine cl.mono ?_
  rintro e w1 ⟨TS, rfl, hTx, hR1, hC1⟩
  have b1 : Blk w1 B 87 6 (secN since 0) := hC1.blk bA (by decide)
  have c1 : Ch Ea w w1 := cA.trans (hC1.mono fun e he => by unfold Ea; rcases he with h | h | h <;> simp [h])
  have cl2 := hold_rep hR1 t l hl
  clear cl hA bA cA hC1
  go_wp2_with fail
  refine cl2.mono ?_
  rintro e w2 ⟨LS, hLx, hR2, hC2, hheld⟩
  have b2 : Blk w2 B 87 6 (secN since 0) := hC2.blk b1 (by unfold El; decide)
  have c2 : Ch Ea w w2 := c1.trans (hC2.mono fun e he => Ea.of_El he)
  clear cl2 b1 c1 hC2 hR1
  have hI2 : Inv N { { s with T := some TS } with L := some LS } := (hI.setT _).setL _
  obtain ⟨hp, b, hpe, heg, heq, hway⟩ : ∃ hp b, e = .returned hp ∧ (∀ (W : World) (x y : Operand), (eqGuard .eql 29 x y hp (.pointer none)).run Yba.prog W = .ok () W) ∧ (∀ W : World, (binOp .eql 29 hp (.pointer none)).run Yba.prog W = .ok (.bool b) W) ∧ ((b = true ∧ hp = .pointer none ∧ ∀ k, k < s.hn l → s.th (l, k) ≠ t) ∨ (b = false ∧ ∃ k g, k < s.hn l ∧ s.th (l, k) = t ∧ s.hv l = .slice (some ⟨g, 0, none⟩) (s.hn l) (s.hc l) ∧ hp = .pointer (some ⟨g, k * 4, none⟩))) := by
    rcases hheld with ⟨rfl, hno⟩ | ⟨k, g, a1, a2, a3, rfl⟩
    · exact ⟨_, true, rfl, fun W x y => by go_simp, fun W => by go_simp, .inl ⟨rfl, rfl, hno⟩⟩
    · exact ⟨_, false, rfl, fun W x y => by go_simp, fun W => by go_simp, .inr ⟨rfl, k, g, a1, a2, a3, rfl⟩⟩
  subst hpe
  clear hheld
  go_upto_if 21 with fail
  go_cut [9] (fun v wx => ∃ s1 k g, v = .pointer (some ⟨g, k * 4, none⟩) ∧ Rep wx s1 ∧ Inv (N + 1) s1 ∧ At s s1 LS TS t l k g ∧ (∀ i, (s1.xv i).ownBlock ≠ some B) ∧ Blk wx B 87 6 (secN since 0) ∧ Ch Ea w wx)
  case first =>
    rcases hway with ⟨rfl, rfl, hno⟩ | ⟨rfl, k, g, a1, a2, a3, rfl⟩
    · have cl3 := get19_made hR2 (LS := LS) rfl l hl
      go_wp2_with fail
      refine cl3.mono ?_
      rintro e w3 ⟨rfl, m3, rfl⟩
      have hR3 := hR2.drewN m3
      have b3 := b2.drewN m3
      have c3 := c2.drewN m3
      clear hR2 b2 c2 cl3
      generalize w2.drewN m3 = w3 at hR3 b3 c3 ⊢
      have cl4 := startHold_rep hR3 (LS := LS) rfl hl (by have := hI.zh l hl; show s.hn l ≤ 10000; omega) t
      go_wp2_with fail
      refine cl4.mono ?_
      rintro e w4 ⟨g, c, th', pl', rfl, hc1, hc2, hsame, hR4, hC4⟩
      have b4 : Blk w4 B 87 6 (secN since 0) := hC4.blk b3 (by unfold Es; decide)
      have c4 : Ch Ea w w4 := c3.trans (hC4.mono fun e he => Ea.of_Es he)
      obtain ⟨tc, lv, hq, -, -⟩ := hR4.thrP (TS := TS) rfl
      have hrow := hR4.locks.row t
      have hq5 : tc (t * 8 + 5) = s.qv t := (hq.one t ht).c5
      have cl5 := llAdd TS (t * 8 + 5) 512 (s.ql t).length l 104 (s.qv t) _ tc w4 hq.blk (by omega) hq5 (by decide) hrow.slice (by have := hI.zq t (by omega); omega)
      go_wp2_with fail
      refine cl5.mono ?_
      rintro e w5 ⟨rfl, vq, wq, hap, rfl⟩
      obtain ⟨hR5, hC5⟩ := hR4.locksAdd (TS := TS) rfl ht _ hap
      have b5 : Blk _ B 87 6 (secN since 0) := hC5.blk b4 (by decide)
      have c5 : Ch Ea w _ := c4.trans (hC5.mono fun e he => by unfold Ea; rcases he with h | h <;> simp [h])
      clear cl5 hq hrow hap hR4 b4 c4 cl4 hC4 hC5
      generalize wq.setCell ⟨TS, t * 8 + 5, none⟩ vq = w5 at hR5 b5 c5 ⊢
      have hv5 : upd s.hv l (.slice (some ⟨g, 0, none⟩) (s.hn l + 1) c) l = .slice (some ⟨g, 0, none⟩) (s.hn l + 1) c := upd_same _ _ _
      obtain ⟨hR6, hC6⟩ := hR5.holds.setPl (l := l) hv5 (s.hn l) (s.ql t).length
      have hR7 := hR5.mkHold hC6 hR6
      have b7 : Blk _ B 87 6 (secN since 0) := hC6.blk b5 (by decide)
      have c7 : Ch Ea w _ := c5.trans (hC6.mono fun e he => by unfold Ea; simp [he])
      obtain ⟨g', cg, hg1, hg2, -, hg4, -, -, hg7⟩ := hR5.holds.at (l := l) (k := s.hn l) (by show s.hn l < upd s.hc l c l; rw [upd_same]; exact hc1)
      have eg : g' = g := by
        have : upd s.hv l (.slice (some ⟨g, 0, none⟩) (s.hn l + 1) c) l = _ := hg1
        rw [hv5] at this
        simp at this
        exact this.1.symm
      subst eg
      go_wp2_with fail
      go_meet
      have hI7 : Inv (N + 1) _ := hI2.start (s' := { Started { { s with T := some TS } with L := some LS } l t g' c th' pl' with qv := upd s.qv t vq, ql := upd s.ql t (s.ql t ++ [l]), pl := upd pl' (l, s.hn l) (s.ql t).length }) ht hl hno rfl (by show upd th' (l, s.hn l) t (l, s.hn l) = t; exact upd_same _ _ _) (by show upd pl' (l, s.hn l) (s.ql t).length (l, s.hn l) = (s.ql t).length; exact upd_same _ _ _) (fun p hp => by
        have hne : p ≠ (l, s.hn l) := fun e => by
          subst e
          simp at hp
        obtain ⟨a1, a2⟩ := hsame p hp
        exact ⟨(show upd th' (l, s.hn l) t p = th' p from upd_other _ _ hne).trans a1, (show upd pl' (l, s.hn l) (s.ql t).length p = pl' p from upd_other _ _ hne).trans a2⟩) rfl rfl rfl rfl rfl rfl (by show upd s.qv t vq 5 = s.qv 5; exact upd_other _ _ (by omega)) rfl rfl
      exact ⟨_, s.hn l, g', rfl, hR7, hI7, ⟨rfl, rfl, rfl, rfl, by show s.hn l < upd s.hn l (s.hn l + 1) l; rw [upd_same]; omega, by show upd th' (l, s.hn l) t (l, s.hn l) = t; exact upd_same _ _ _, by
        show upd s.hv l _ l = .slice (some ⟨g', 0, none⟩) (upd s.hn l (s.hn l + 1) l) (upd s.hc l c l)
        rw [upd_same, upd_same, upd_same]⟩, hBo, b7, c7⟩
    · go_wp2_with fail
      go_meet
      exact ⟨_, k, g, rfl, hR2, hI2.mono (by omega), ⟨rfl, rfl, rfl, rfl, a1, a2, a3⟩, hBo, b2, c2⟩
  case rest =>
    clear hR2 b2 c2 hI2 hway heg heq hLx hTx
    obtain ⟨s1, k, g, rfl, hR, hI1, hat, hown, bx, hC⟩ := hcut
    have ci := isContested_made hR hat.L l hl
    rw [hat.D] at ci
    go_wp2_with fail
    refine ci.mono ?_
    rintro e w3 ⟨rfl, m3, rfl⟩
    have hR3 := hR.drewN m3
    have bx3 := bx.drewN m3
    have hC3 := hC.drewN m3
    clear hR bx hC ci hBo
    generalize wc.drewN m3 = w3 at hR3 bx3 hC3 ⊢
    generalize (!decide (s1.ct l = 0)) = bb
    have ck := sectionKind_any bb w3
    go_wp2_with fail
    refine ck.mono ?_
    rintro e w4 ⟨rfl, rfl⟩
    obtain ⟨kd, hkd, hkd1⟩ : ∃ kd : Nat, (if bb then (1 : Int) else 0) = (kd : Int) ∧ kd ≤ 1 := by
      cases bb
      · exact ⟨0, rfl, by omega⟩
      · exact ⟨1, rfl, by omega⟩
    rw [hkd]
    have hP3 := (hR3.thrP hat.T).box8 bx3 hown
    obtain ⟨hP4, hE4⟩ := hP3.kind8 kd
    have q5 := bx3.cell (i := 5) (by omega)
    have zx := bx3.frozen
    have hR4 : Rep (w4.setCell ⟨B, 5, none⟩ (.int .u8 (kd : Int))) (Dirty s1 (l, k) (s1.sl (l, k)) B kd) := by
      have := hR3.mkThr hE4 hat.T hP4
      unfold Dirty
      rw [upd_self]
      exact this
    have hC4 : Ch Ea w (w4.setCell ⟨B, 5, none⟩ (.int .u8 (kd : Int))) := hC3.trans (hE4.mono fun e he => Ea.of_Et he)
    have hkc : k < s1.hc l := Nat.lt_of_lt_of_le hat.lt (hR3.holds.val l).2.1
    obtain ⟨as1, cs1, hsv⟩ := (hR3.slots.row (l, k)).val
    have hsz : (s1.sl (l, k)).length ≤ 6000 := by have := hI1.zs l k hl; omega
    clear hP3 hP4 hE4 hR3 bx3 hC3 ck
    obtain ⟨L, hL⟩ : ∃ L, L = s1.sl (l, k) := ⟨_, rfl⟩
    rw [← hL] at hsv hsz hR4
    have hsvD : (Dirty s1 (l, k) L B kd).sv (l, k) = .slice as1 L.length cs1 := hsv
    have hg5 := (hR4.hcell (l := l) (k := k) (g := g) hat.hv hkc).2.2.2.1
    rw [hsvD] at hg5
    have hszI : (L.length : Int) ≤ 6000 := by omega
    have HSV : Hid (s1.sv (l, k) = .slice as1 L.length cs1) := hsv
    have HL : Hid (L = s1.sl (l, k)) := hL
    clear hsv hsvD hL
    go_upto_block 0 with fail
    go_cut [10] (fun v wx => ∃ (s2 : St) (j : Nat), v = .int .i64 (j : Int) ∧ j ≤ L.length ∧ Inv (N + 1) s2 ∧ At s s2 LS TS t l k g ∧ s2.sl (l, k) = L.take j ∧ s2.sv (l, k) = .slice as1 L.length cs1 ∧ Rep wx (Dirty s2 (l, k) L B kd) ∧ Ch Ea w wx)
    case first =>
      go_wp2_with fail
      go_loopg [10] L.length (fun n v wr => ∃ s2, v = .int .i64 (n : Int) ∧ n ≤ L.length ∧ Inv (N + 1) s2 ∧ At s s2 LS TS t l k g ∧ s2.sl (l, k) = L.take n ∧ s2.sv (l, k) = .slice as1 L.length cs1 ∧ Rep wr (Dirty s2 (l, k) L B kd) ∧ Ch Ea w wr)
      case atStart => exact ⟨s1, rfl, Nat.le_refl _, hI1, hat, by rw [← HL.out]; simp, HSV.out, hR4, hC4⟩
      case round =>
        clear hR4 hC4 hg5 HSV hI1 hat hown HL hkc q5 zx
        obtain ⟨s2, rfl, hn, hI2, hat, hs2, hsv, hR, hC⟩ := hrel
        have HS2 : Hid (s2.sl (l, k) = L.take gk) := hs2
        have HSV : Hid (s2.sv (l, k) = .slice as1 L.length cs1) := hsv
        have hkc : k < s2.hc l := Nat.lt_of_lt_of_le hat.lt (hR.holds.val l).2.1
        obtain ⟨⟨c66, b66⟩, -, -, hg5, -, z66⟩ := hR.hcell (l := l) (k := k) (g := g) hat.hv hkc
        have hsvD : (Dirty s2 (l, k) L B kd).sv (l, k) = .slice as1 L.length cs1 := hsv
        rw [hsvD] at hg5
        clear hsvD hsv hs2
        have hP := hR.thrP (TS := TS) hat.T
        obtain ⟨sb, x0, x1, x2, x3, x4, x5⟩ := ThrP.cells8 hP
        by_cases h0 : gk = 0
        · subst h0
          go_wp2_with fail
          go_quiet (fail)
          go_wp2_with fail
          go_meet
          exact ⟨s2, 0, rfl, by omega, hI2, hat, HS2.out, HSV.out, hR.drewN _, hC.drewN _⟩
        · obtain ⟨m, rfl⟩ : ∃ m, gk = m + 1 := ⟨gk - 1, by omega⟩
          have hm : m < L.length := by omega
          obtain ⟨n, hnL⟩ : ∃ n, n = L.getD m 0 := ⟨_, rfl⟩
          have htake : s2.sl (l, k) = L.take m ++ [n] := by
            rw [HS2.out, List.take_add_one, hnL]
            simp [List.getD, hm]
          have hmem : n ∈ s2.sl (l, k) := by rw [htake]; simp
          obtain ⟨hin1, hin2⟩ := hI2.sin l k n hl hat.lt hmem
          rw [hat.th] at hin1 hin2
          have hkn : (s2.xk t).getD n 0 ≤ 1 := by
            have := hI2.kd t n ht hin1
            omega
          have t8 : t ≠ 8 := by omega
          have hxt : (upd s2.xk 8 [kd]) t = s2.xk t := upd_other _ _ t8
          obtain ⟨gs, caps, szs, cs, hrow, -, -, -, -, hnc⟩ := (hR.slots.row (l, k)).at (i := m) (by show m < (upd s2.sl (l, k) L (l, k)).length; rw [upd_same]; exact hm)
          have hrow' : s2.sv (l, k) = .slice (some ⟨gs, 0, none⟩) (upd s2.sl (l, k) L (l, k)).length caps := hrow
          rw [HSV.out, upd_same] at hrow'
          simp at hrow'
          obtain ⟨rfl, rfl⟩ := hrow'
          have hnc' : wr.cell? ⟨gs, m, none⟩ = some (.int .i32 (n : Int)) := by
            rw [hnc]
            show some (Value.int IntKind.i32 (((upd s2.sl (l, k) L (l, k)).getD m 0 : Nat) : Int)) = _
            rw [upd_same, hnL]
          obtain ⟨tc, lv, hq, hbig, hhigh⟩ := hP
          have hne : (upd s2.xk 8 [kd] t).length ≠ 0 := by rw [hxt]; omega
          obtain ⟨gx, capx, szx, cx, hvx, hcx, -, hbx, hbx2, hbx3⟩ : ∃ gx capx szx cx, (upd s2.xv 8 (.slice (some ⟨B, 0, none⟩) 1 1)) t = .slice (some ⟨gx, 0, none⟩) (upd s2.xk 8 [kd] t).length capx ∧ (upd s2.xk 8 [kd] t).length ≤ capx ∧ capx ≤ maxLen ∧ Blk wr gx 87 szx cx ∧ capx * 6 ≤ szx ∧ SecV cx (upd s2.xk 8 [kd] t) := by
            rcases hq.rows.row t with ⟨_, q0⟩ | hrest
            · exact absurd (by show (upd s2.xk 8 [kd] t).length = 0; exact (congrArg List.length q0)) hne
            · exact hrest
          have hin1' : n < (upd s2.xk 8 [kd] t).length := by rw [hxt]; exact hin1
          obtain ⟨⟨sn, y0⟩, -⟩ := hbx3 n hin1'
          have hs0 : wr.cell? ⟨gx, n * 6, none⟩ = some (.int .u64 sn) := (hbx.cell (i := n * 6) (by omega)).trans (by rw [y0])
          have cs30 := fun i => section_any (hq.drewN i) t ht n hin1' gx _ capx hvx
          have hmI : ((m : Int) + 1) - 1 = (m : Int) := by omega
          have hmL : (m : Int) < (L.length : Int) := by omega
          have hmp : (0 : Int) < (m : Int) + 1 := by omega
          have hcast : ((m + 1 : Nat) : Int) = (m : Int) + 1 := rfl
          rw [hcast]
          have HP : Hid (s2.sl (l, k) = L.take m ++ [n] ∧ n < (s2.xk t).length ∧ (s2.xk t).getD n 0 ≤ 1) := ⟨htake, hin1, hkn⟩
          clear hcast hnL htake hmem hin1 hin2 hkn hxt hne hvx hcx hbx hbx2 hbx3 hin1' y0 hq hbig hhigh hrow hnc b66 z66 h0 hI
          go_wp2_with fail
          go_quiet (first | (go_at_call 30; exact Calls.quiet_of_same (cs30 _)))
          have hR' := hR.drewN nq
          have hC' := hC.drewN nq
          have hnc'' : (wr.drewN nq).cell? ⟨gs, m, none⟩ = some (.int .i32 (n : Int)) := hnc'
          have hg5'' : (wr.drewN nq).cell? ⟨g, k * 4 + 2, none⟩ = some (.slice (some ⟨gs, 0, none⟩) L.length cs1) := hg5
          clear cs30 hs0 hR hC hnc' hg5 x0 x1 x2 x3 x4 x5
          generalize wr.drewN nq = wd at hR' hC' hnc'' hg5'' ⊢
          by_cases hge : sb ≤ sn
          · obtain ⟨htake, hin1, hkn⟩ := HP.out
            have t8 : t ≠ 8 := by omega
            have hxt : (Dirty s2 (l, k) L B kd).xk t = s2.xk t := upd_other _ _ t8
            have hzx := hI2.zx t ht
            have cd := ndrop_any (hR'.thrP (TS := TS) hat.T) t ht (by rw [hxt]; omega) n _ (by rw [hxt]; exact hin1) rfl (by rw [hxt]; exact hkn)
            clear htake hin1 hkn hxt hzx
            go_wp2_with fail
            refine cd.mono ?_
            rintro e w5 ⟨rfl, v5, K5, hD5, hP5, hC5⟩
            go_wp2_with fail
            go_roundg m
            case measure => omega
            case rel =>
              obtain ⟨htake, hin1, hkn⟩ := HP.out
              have t8 : t ≠ 8 := by omega
              have hxt : (Dirty s2 (l, k) L B kd).xk t = s2.xk t := upd_other _ _ t8
              rw [hxt] at hD5
              have hR5 := hR'.mkThr hC5 hat.T hP5
              refine ⟨{ s2 with xv := upd s2.xv t v5, xk := upd s2.xk t K5, sl := upd s2.sl (l, k) (L.take m) }, rfl, by omega, hI2.dropSlot ht hl hat.lt hat.th htake hD5 v5, ⟨hat.D, hat.cb, hat.L, hat.T, hat.lt, hat.th, hat.hv⟩, upd_same _ _ _, HSV.out, ?_, hC'.trans (hC5.mono fun e he => Ea.of_Et he)⟩
              have e1 : Dirty { s2 with xv := upd s2.xv t v5, xk := upd s2.xk t K5, sl := upd s2.sl (l, k) (L.take m) } (l, k) L B kd = { Dirty s2 (l, k) L B kd with xv := upd (Dirty s2 (l, k) L B kd).xv t v5, xk := upd (Dirty s2 (l, k) L B kd).xk t K5 } := by
                unfold Dirty
                simp only [upd_upd]
                rw [upd_comm s2.xv _ _ t8, upd_comm s2.xk _ _ t8]
              rw [e1]
              exact hR5
          · have hgeD : decide (sb ≤ sn) = false := by simpa using hge
            go_wp2_with fail
            go_meet
            exact ⟨s2, m + 1, rfl, hn, hI2, hat, HS2.out, HSV.out, hR', hC'⟩
    case rest =>
      clear hR4 hC4 hg5 HSV hI1 hat hown HL hkc q5 zx
      obtain ⟨s2, j, rfl, hj, hI2, hat, hs2, hsv, hR, hC⟩ := hcut
      have hkc : k < s2.hc l := Nat.lt_of_lt_of_le hat.lt (hR.holds.val l).2.1
      obtain ⟨⟨c66, b66⟩, -, -, hg5, -, z66⟩ := hR.hcell (l := l) (k := k) (g := g) hat.hv hkc
      have hsvD : (Dirty s2 (l, k) L B kd).sv (l, k) = .slice as1 L.length cs1 := hsv
      rw [hsvD] at hg5
      obtain ⟨sb, x0, x1, x2, x3, x4, x5⟩ := ThrP.cells8 (hR.thrP (TS := TS) hat.T)
      have t8 : t ≠ 8 := by omega
      have hxt : (Dirty s2 (l, k) L B kd).xk t = s2.xk t := upd_other _ _ t8
      have hzx := hI2.zx t ht
      have hRd := hR.drew
      have cl := add_any (hRd.thrP (TS := TS) hat.T) t ht (by rw [hxt]; omega) sb kd hkd1
      rw [hxt] at cl
      have fapp : ∀ w6 v6, ThrP w6 TS (upd (Dirty s2 (l, k) L B kd).xv t v6) (upd (Dirty s2 (l, k) L B kd).xk t (s2.xk t ++ [kd])) (Dirty s2 (l, k) L B kd).qv → Ch Et wc.drew w6 →
          w6.cell? ⟨g, k * 4 + 2, none⟩ = some (.slice as1 L.length cs1) ∧ g < w6.heap.size ∧ (w6.alloc (.cells #[.int .i32 ((s2.xk t).length : Int)] 21)).cell? ⟨g, k * 4 + 2, none⟩ = some (.slice as1 L.length cs1) ∧ ∃ g7 o7 c7 w7, (Builtin.append_ #[64, 64] 64 #[.slice as1 j cs1, .slice (some ⟨w6.heap.size, 0, none⟩) 1 1]).run Yba.prog (w6.alloc (.cells #[.int .i32 ((s2.xk t).length : Int)] 21)) = .ok (.slice (some ⟨g7, o7, none⟩) (j + 1) c7) w7 ∧
            (∀ i, w7.frozen? ⟨g, i, none⟩ = false) ∧ w7.cell? ⟨g, k * 4 + 2, none⟩ = some (.slice as1 L.length cs1) ∧ ∃ s3, Rep (w7.setCell ⟨g, k * 4 + 2, none⟩ (.slice (some ⟨g7, o7, none⟩) (j + 1) c7)) s3 ∧ Inv (N + 2) s3 ∧ At s s3 LS TS t l k g ∧ Ch Ea w (w7.setCell ⟨g, k * 4 + 2, none⟩ (.slice (some ⟨g7, o7, none⟩) (j + 1) c7)) := fun w6 v6 hP6 hC6 => by
        have hPc : ThrP w6 TS (upd s2.xv t v6) (upd s2.xk t (s2.xk t ++ [kd])) s2.qv := by
          have e1 : upd (Dirty s2 (l, k) L B kd).xv t v6 = upd (upd s2.xv t v6) 8 (.slice (some ⟨B, 0, none⟩) 1 1) := (upd_comm s2.xv _ _ t8).symm
          have e2 : upd (Dirty s2 (l, k) L B kd).xk t (s2.xk t ++ [kd]) = upd (upd s2.xk t (s2.xk t ++ [kd])) 8 [kd] := (upd_comm s2.xk _ _ t8).symm
          rw [e1, e2] at hP6
          have n8 : (8 : Nat) ≠ t := fun h => t8 h.symm
          exact hP6.unbox8 ((upd_other _ _ n8).trans hI2.b8.1) ((upd_other _ _ n8).trans hI2.b8.2)
        have hRc := hRd.mkThr hC6 hat.T hPc
        have hcw : Ch Ea w w6 := (hC.drew).trans (hC6.mono fun e he => Ea.of_Et he)
        obtain ⟨⟨c6, b6⟩, -, -, hg6, -, z6⟩ := hRc.hcell (l := l) (k := k) (g := g) hat.hv hkc
        have hg6' : w6.cell? ⟨g, k * 4 + 2, none⟩ = some (.slice as1 L.length cs1) := by rw [hg6]; exact congrArg some hsv
        have hrow : LRow (w6.alloc (.cells #[.int .i32 ((s2.xk t).length : Int)] 21)) 21 .i32 (.slice as1 j cs1) (L.take j) := by
          have := (hRc.alloc (.cells #[.int .i32 ((s2.xk t).length : Int)] 21)).slots.row (l, k)
          have h2 : LRow (w6.alloc (.cells #[.int .i32 ((s2.xk t).length : Int)] 21)) 21 .i32 (s2.sv (l, k)) (upd s2.sl (l, k) L (l, k)) := this
          rw [hsv, upd_same] at h2
          exact h2.takeA hj
        have hlj : (L.take j).length = j := by simp; omega
        have hsli := hrow.slice
        rw [hlj] at hsli
        obtain ⟨v7, w7, hr7, ha7⟩ := run_append1 (P := Yba.prog) (w6.alloc (.cells #[.int .i32 ((s2.xk t).length : Int)] 21)) (by have := b6.room; simp; omega) 64 64 21 Yba.underlying64 info21 rfl (.slice as1 j cs1) j _ hsli ⟨w6.heap.size, 0, none⟩ 1 (fun _ => .int .i32 ((s2.xk t).length : Int)) (one_new _ _ _) (fun _ _ => rfl) (by omega) (by unfold maxLen; omega)
        obtain ⟨g7, o7, c7, rfl⟩ := ha7.val
        have b7 := ha7.other hsli (b6.alloc _) (by decide)
        obtain ⟨hR7, hC7⟩ := hRc.appendSlot (x := (s2.xk t).length) hat.hv hkc (upd_same _ _ _) hsv hj _ ha7
        have b6a := (b6.alloc (.cells #[.int .i32 ((s2.xk t).length : Int)] 21)).cell (i := k * 4 + 2) (by have : k < s2.hc l := hkc; show k * 4 + 2 < s2.hc l * 4; omega)
        refine ⟨hg6', b6.lt, by rw [b6a, ← b6.cell (i := k * 4 + 2) (by have : k < s2.hc l := hkc; show k * 4 + 2 < s2.hc l * 4; omega), hg6'], g7, o7, c7, w7, hr7, b7.frozen, ?_, _, hR7, ?_, ⟨hat.D, hat.cb, hat.L, hat.T, hat.lt, hat.th, hat.hv⟩, hcw.trans (hC7.mono fun e he => by unfold Ea; rcases he with h | h <;> simp [h])⟩
        · have c7' := b7.cell (i := k * 4 + 2) (by have : k < s2.hc l := hkc; show k * 4 + 2 < s2.hc l * 4; omega)
          have c6' := b6.cell (i := k * 4 + 2) (by have : k < s2.hc l := hkc; show k * 4 + 2 < s2.hc l * 4; omega)
          rw [c7', ← c6', hg6']
        · have hA := hI2.addSlot (kd := kd) ht hl hat.lt hat.th hkd1 v6 (upd s2.sv (l, k) (.slice (some ⟨g7, o7, none⟩) (j + 1) c7))
          rw [hs2] at hA
          have e : ({ { Dirty s2 (l, k) L B kd with xv := upd s2.xv t v6, xk := upd s2.xk t (s2.xk t ++ [kd]) } with sv := upd (Dirty s2 (l, k) L B kd).sv (l, k) (.slice (some ⟨g7, o7, none⟩) (j + 1) c7), sl := upd (Dirty s2 (l, k) L B kd).sl (l, k) (L.take j ++ [(s2.xk t).length]) } : St) = { s2 with xv := upd s2.xv t v6, xk := upd s2.xk t (s2.xk t ++ [kd]), sl := upd s2.sl (l, k) (L.take j ++ [(s2.xk t).length]), sv := upd s2.sv (l, k) (.slice (some ⟨g7, o7, none⟩) (j + 1) c7) } := by
            unfold Dirty
            simp only [upd_upd]
          rw [e]
          exact hA
      have hjI : (j : Int) ≤ (L.length : Int) := by omega
      have hjc : (L.length : Int) ≤ (cs1 : Int) ∧ (cs1 : Int) ≤ 9223372036854775807 := by
        have h2 : LRow wc 21 .i32 (s2.sv (l, k)) (upd s2.sl (l, k) L (l, k)) := hR.slots.row (l, k)
        rw [hsv, upd_same] at h2
        have := maxLen_int
        rcases h2 with ⟨h0, h1⟩ | ⟨g', cap, sz, c, h0, r1, r2, _⟩
        · simp at h0
          obtain ⟨_, h3, h4⟩ := h0
          rw [h4, h1]
          exact ⟨by simp, by simp⟩
        · simp at h0
          obtain ⟨_, rfl⟩ := h0
          omega
      obtain ⟨hjc1, hjc2⟩ := hjc
      have HSV : Hid (s2.sv (l, k) = .slice as1 L.length cs1) := hsv
      have HS2 : Hid (s2.sl (l, k) = L.take j) := hs2
      clear hsv hsvD hs2 hxt hzx b66 z66 hI hRd t8
      go_upto_region 10 with fail
      go_cut [] (fun wx => ∃ s3, Rep wx s3 ∧ Inv (N + 2) s3 ∧ At s s3 LS TS t l k g ∧ Ch Ea w wx)
      case first =>
        have hjcs : (j : Int) ≤ (cs1 : Int) := by omega
        cases as1 with
        | none =>
          obtain ⟨rfl, rfl⟩ : L = [] ∧ cs1 = 0 := by
            have h2 : LRow wc 21 .i32 (s2.sv (l, k)) (upd s2.sl (l, k) L (l, k)) := hR.slots.row (l, k)
            rw [HSV.out, upd_same] at h2
            rcases h2 with ⟨h0, h1⟩ | ⟨g', cap, sz, c, h0, _⟩
            · simp at h0
              exact ⟨h1, h0.2⟩
            · simp at h0
          have hj0 : j = 0 := by simpa using hj
          subst hj0
          go_region_with (go_at_call 31; refine cl.mono ?_; rintro e w6 ⟨rfl, v6, hP6, hC6⟩; obtain ⟨f1, f0, f9, g7, o7, c7, w7, f2, f3, f4, s3, f5, f6, f7, f8⟩ := fapp w6 v6 hP6 hC6)
          all_goals
            go_wp2_with fail
            go_meet
            exact ⟨s3, f5, f6, f7, f8⟩
        | some ag =>
          go_region_with (go_at_call 31; refine cl.mono ?_; rintro e w6 ⟨rfl, v6, hP6, hC6⟩; obtain ⟨f1, f0, f9, g7, o7, c7, w7, f2, f3, f4, s3, f5, f6, f7, f8⟩ := fapp w6 v6 hP6 hC6)
          all_goals
            go_wp2_with fail
            go_meet
            exact ⟨s3, f5, f6, f7, f8⟩
      case rest =>
        obtain ⟨s3, hR3, hI3, hat3, hC3⟩ := hcut
        have cc := compact_rep hR3 hI3 (by omega) hat3.L hat3.T t ht
        rw [hat3.D] at cc
        go_wp2_with fail
        refine cc.mono ?_
        rintro e w9 ⟨rfl, hC9, hR9⟩
        go_wp2
        go_end0
        have hC10 : Ch Ea w w9 := hC3.trans (hC9.mono fun e he => Ea.of_Ec he)
        rcases hR9 with hR9 | ⟨v9, hR9⟩
        · exact ⟨rfl, s3, hR9, hI3, hat3.D, hat3.cb, hC10⟩
        · exact ⟨rfl, _, hR9, hI3.cmp ht v9, hat3.D, hat3.cb, hC10⟩

#print axioms addNested_rep
end Go.Proofs.Ybulkbzhm
