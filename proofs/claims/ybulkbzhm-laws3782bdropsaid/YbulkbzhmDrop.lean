/-
  drop (of sectionSlots and of nestedSections), contest, section.
-/
import Derived.Test.YbulkbzhmPush
namespace Go.Proofs.Ybulkbzhm
set_option linter.unusedSectionVars false
variable [Base]
open Go.RowKit
open Go.WideShapes (add_plain)

section
variable {w : World} {T : Nat} {tc xv qv : Nat → Value} {xk : Nat → List Nat} {lv : Nat → Nat} {t g n cap : Nat}

theorem ThrQ.arr (h : ThrQ w T tc xv xk qv lv) (hv : xv t = .slice (some ⟨g, 0, none⟩) n cap) : ∃ sz c, n = (xk t).length ∧ n ≤ cap ∧ cap ≤ maxLen ∧ Blk w g 87 sz c ∧ cap * 6 ≤ sz ∧ SecV c (xk t) := by
  have hr := h.rows.row t
  rw [hv] at hr
  rcases hr with ⟨h0, _⟩ | ⟨g', cap', sz, c, hv', k1, k2, k3, k4, k5⟩
  · simp at h0
  · simp at hv'
    obtain ⟨rfl, rfl, rfl⟩ := hv'
    exact ⟨sz, c, rfl, k1, k2, k3, k4, k5⟩

theorem ThrQ.kind (h : ThrQ w T tc xv xk qv lv) (hv : xv t = .slice (some ⟨g, 0, none⟩) n cap) (i kd : Nat) : ThrQ (w.setCell ⟨g, i * 6 + 5, none⟩ (.int .u8 (kd : Int))) T tc xv (upd xk t ((xk t).set i kd)) qv lv ∧ Ch Et w (w.setCell ⟨g, i * 6 + 5, none⟩ (.int .u8 (kd : Int))) := by
  obtain ⟨sz, c, _, _, _, hb, _⟩ := h.arr hv
  have hr := h.rows.row t
  rw [hv] at hr
  have r1 := h.rows.turn (w' := w.setCell ⟨g, i * 6 + 5, none⟩ (.int .u8 (kd : Int))) KRow.loc t (hr.kind i kd) (fun g' _ hn => heap_setCell_other _ _ _ _ fun hc => hn (by rw [hv]; simp at hc; simp [Value.ownBlock, hc])) (fun g' hg' => .inl (by rw [hv]; exact hg'))
  rw [← hv, upd_self] at r1
  exact ⟨⟨h.blk.set_other (a := ⟨g, i * 6 + 5, none⟩) (h.blk.ne hb (by decide)) _, fun u hu => (h.one u hu).turn (Nums.other ((One.refl g w).setCell _ _) hb (by decide)) fun _ _ _ => rfl, r1⟩, (Ch.refl _ w).setCell hb (.inr (.inr rfl)) _ _⟩

theorem ThrQ.clock (h : ThrQ w T tc xv xk qv lv) (hv : xv t = .slice (some ⟨g, 0, none⟩) n cap) (i : Nat) : ThrQ (w.setCell ⟨g, i * 6 + 3, none⟩ (.pointer none)) T tc xv xk qv lv ∧ Ch Et w (w.setCell ⟨g, i * 6 + 3, none⟩ (.pointer none)) := by
  obtain ⟨sz, c, _, _, _, hb, _⟩ := h.arr hv
  have hr := h.rows.row t
  rw [hv] at hr
  have r1 := h.rows.turn (w' := w.setCell ⟨g, i * 6 + 3, none⟩ (.pointer none)) KRow.loc t (hr.clock i) (fun g' _ hn => heap_setCell_other _ _ _ _ fun hc => hn (by rw [hv]; simp at hc; simp [Value.ownBlock, hc])) (fun g' hg' => .inl (by rw [hv]; exact hg'))
  rw [← hv, upd_self, upd_self] at r1
  exact ⟨⟨h.blk.set_other (a := ⟨g, i * 6 + 3, none⟩) (h.blk.ne hb (by decide)) _, fun u hu => (h.one u hu).turn (Nums.other ((One.refl g w).setCell _ _) hb (by decide)) fun _ _ _ => rfl, r1⟩, (Ch.refl _ w).setCell hb (.inr (.inr rfl)) _ _⟩

theorem ThrQ.count (h : ThrQ w T tc xv xk qv lv) (ht : t ≤ 2) (hv : xv t ≠ .slice none 0 0) (a : Int) : ThrQ (w.setCell ⟨T, t * 8 + 1, none⟩ (.int .i64 a)) T (fun j => if j = t * 8 + 1 then .int .i64 a else tc j) xv xk qv lv ∧ Ch Et w (w.setCell ⟨T, t * 8 + 1, none⟩ (.int .i64 a)) := by
  have hN : Nums w (w.setCell ⟨T, t * 8 + 1, none⟩ (.int .i64 a)) := Nums.other ((One.refl T w).setCell _ _) h.blk (by decide)
  have hr : Fam KRow (w.setCell ⟨T, t * 8 + 1, none⟩ (.int .i64 a)) (upd xv t (xv t)) (upd xk t (xk t)) := by
    rw [upd_self, upd_self]
    exact h.rows.of_blocks KRow.loc fun g _ _ hk => heap_setCell_other _ _ _ _ (hk.ne h.blk (by decide))
  have h1 := h.one t ht
  have := h.turn t (h.blk.set (t * 8 + 1) (.int .i64 a)) (fun j hj => if_neg (by omega)) hN (q' := qv t) (lv' := lv t) hr (by
    obtain ⟨c0, _, c2, c3, c4, c5, c6, c7, hl⟩ := h1
    exact ⟨by simpa using c0, ⟨a, by simp, fun h => absurd h hv⟩, by simpa using c2, by simpa using c3.nums hN, by simpa using c4.nums hN, by simpa using c5, by simpa using c6, by simpa using c7, hl⟩)
  rw [upd_self, upd_self, upd_self, upd_self] at this
  exact ⟨this, (Ch.refl _ w).setCell h.blk (.inl rfl) _ _⟩

theorem ThrQ.shorten (h : ThrQ w T tc xv xk qv lv) (ht : t ≤ 2) (hv : xv t = .slice (some ⟨g, 0, none⟩) n cap) {m : Nat} (hm : m ≤ (xk t).length) : ThrQ (w.setCell ⟨T, t * 8, none⟩ (.slice (some ⟨g, 0, none⟩) m cap)) T (fun j => if j = t * 8 then .slice (some ⟨g, 0, none⟩) m cap else tc j) (upd xv t (.slice (some ⟨g, 0, none⟩) m cap)) (upd xk t ((xk t).take m)) qv lv ∧ Ch Et w (w.setCell ⟨T, t * 8, none⟩ (.slice (some ⟨g, 0, none⟩) m cap)) := by
  have hN : Nums w (w.setCell ⟨T, t * 8, none⟩ (.slice (some ⟨g, 0, none⟩) m cap)) := Nums.other ((One.refl T w).setCell _ _) h.blk (by decide)
  have hr0 := h.rows.row t
  rw [hv] at hr0
  have r1 := h.rows.turn (w' := w) KRow.loc t (hr0.take hm) (fun _ _ _ => rfl) (fun g' hg' => .inl (by rw [hv]; exact hg'))
  have hr := r1.of_blocks (w' := w.setCell ⟨T, t * 8, none⟩ (.slice (some ⟨g, 0, none⟩) m cap)) KRow.loc fun g _ _ hk => heap_setCell_other _ _ _ _ (hk.ne h.blk (by decide))
  have h1 := h.one t ht
  have := h.turn t (h.blk.set (t * 8) (.slice (some ⟨g, 0, none⟩) m cap)) (fun j hj => if_neg (by omega)) hN (q' := qv t) (lv' := lv t) hr (by
    obtain ⟨c0, ⟨a, c1, _⟩, c2, c3, c4, c5, c6, c7, hl⟩ := h1
    exact ⟨by simp, ⟨a, by simpa using c1, fun h => by simp at h⟩, by simpa using c2, by simpa using c3.nums hN, by simpa using c4.nums hN, by simpa using c5, by simpa using c6, by simpa using c7, hl⟩)
  rw [upd_self, upd_self] at this
  exact ⟨this, (Ch.refl _ w).setCell h.blk (.inl rfl) _ _⟩

end

/-- What a drop of slot i leaves of the kinds: it is empty, and the empty ones at the end go. -/
def Dropped (K K' : List Nat) (i : Nat) : Prop := ∃ m, m ≤ K.length ∧ K' = (K.set i 2).take m ∧ ∀ j, m ≤ j → j < K.length → (K.set i 2).getD j 0 = 2

set_option maxRecDepth 100000 in
set_option maxHeartbeats 2000000 in
theorem sdrop_any {w : World} {T : Nat} {xv qv : Nat → Value} {xk : Nat → List Nat} (h : ThrP w T xv xk qv) (t : Nat) (ht : t ≤ 2) (hK : (xk t).length ≤ 10000) (i kd : Nat) (hi : i < (xk t).length) (hkd : (xk t).getD i 0 = kd) (hkd1 : kd ≤ 1) :
    Calls Yba.prog 35 #[.pointer (some ⟨T, t * 8, none⟩), .int .i32 (i : Int)] w fun e w' => e = .returned (.tuple #[]) ∧
      ∃ v' K', Dropped (xk t) K' i ∧ ThrP w' T (upd xv t v') (upd xk t K') qv ∧ Ch Et w w' := by
  obtain ⟨tc, lv, hq, hbig, hhigh⟩ := h
  rcases hq.rows.row t with ⟨_, h0⟩ | ⟨g, cap, sz, c, hv, k1, k2, k3, k4, k5⟩
  · rw [h0] at hi
    simp at hi
  obtain ⟨a0, a1, a2, a3, a4, a5⟩ := k5 i hi
  rw [hkd] at a5
  have h1 := hq.one t ht
  obtain ⟨d, c1, _⟩ := h1.c1
  have hb := hq.blk
  have q0 : w.cell? ⟨T, t * 8, none⟩ = some (.slice (some ⟨g, 0, none⟩) (xk t).length cap) := (hb.cell (by omega)).trans (by rw [h1.c0, hv])
  have q1 : w.cell? ⟨T, t * 8 + 1, none⟩ = some (.int .i64 d) := (hb.cell (by omega)).trans (by rw [c1])
  have g3 : w.cell? ⟨g, i * 6 + 3, none⟩ = some (.pointer none) := (k3.cell (by omega)).trans (by rw [a3])
  have g5 : w.cell? ⟨g, i * 6 + 5, none⟩ = some (.int .u8 (kd : Int)) := (k3.cell (by omega)).trans (by rw [a5])
  have zT := hb.frozen
  have zg := k3.frozen
  have hTg : T ≠ g := hb.ne k3 (by decide)
  have hgT : g ≠ T := fun h => hTg h.symm
  have hiI : (i : Int) < ((xk t).length : Int) := by omega
  have hne : xv t ≠ .slice none 0 0 := by rw [hv]; simp
  obtain ⟨s1, e1⟩ := hq.clock hv i
  obtain ⟨s2, e2⟩ := s1.kind hv i 2
  obtain ⟨s3, e3⟩ := s2.count (t := t) ht hne (wrap64 (d + 1))
  have hlen : (upd xk t ((xk t).set i 2) t).length = (xk t).length := by rw [upd_same]; simp
  have cu := update_thr s3 ht (sk := kd) (i := i) (by rw [hlen]; exact hK) hkd1 hne (by have := hbig t ht; omega)
  have hE : Ch Et w _ := (e1.trans e2).trans e3
  go_enter Yba.func35, Yba.ntmps35
  go_wp2_with fail
  refine cu.mono ?_
  rintro e w1 ⟨rfl, hq1, hc1⟩
  have hE1 := hE.trans hc1
  clear hE cu s1 s2 s3 e1 e2 e3 q0 q1 g3 g5 zT zg hc1
  have q0 : w1.cell? ⟨T, t * 8, none⟩ = some (.slice (some ⟨g, 0, none⟩) (xk t).length cap) := (hq1.blk.cell (by omega)).trans (by rw [(hq1.one t ht).c0, hv])
  obtain ⟨n0, hn0⟩ : ∃ n0, (xk t).length = n0 + 1 := ⟨(xk t).length - 1, by omega⟩
  have hn0I : ((xk t).length : Int) - 1 = (n0 : Int) := by omega
  go_wp2_with fail
  go_loopg [6] (n0 + 1) (fun k v wr => ∃ tc', ((k = 0 ∧ v = .int .i64 (-1)) ∨ ∃ m : Nat, k = m + 1 ∧ v = .int .i64 (m : Int)) ∧ k ≤ (xk t).length ∧ (∀ j, k ≤ j → j < (xk t).length → ((xk t).set i 2).getD j 0 = 2) ∧ ThrQ wr T tc' xv (upd xk t ((xk t).set i 2)) qv lv ∧ Ch Et w wr)
  case atStart => exact ⟨_, .inr ⟨n0, rfl, rfl⟩, by omega, fun j j1 j2 => by omega, hq1, hE1⟩
  case round =>
    clear hq1 hE1 q0
    obtain ⟨tc', hm, hk, hall, hq1, hE1⟩ := hrel
    have HALL : Hid (∀ j, gk ≤ j → j < (xk t).length → ((xk t).set i 2).getD j 0 = 2) := hall
    clear hall
    have q0 : wr.cell? ⟨T, t * 8, none⟩ = some (.slice (some ⟨g, 0, none⟩) (xk t).length cap) := (hq1.blk.cell (by omega)).trans (by rw [(hq1.one t ht).c0, hv])
    obtain ⟨d', c1', _⟩ := (hq1.one t ht).c1
    have q1 : wr.cell? ⟨T, t * 8 + 1, none⟩ = some (.int .i64 d') := (hq1.blk.cell (by omega)).trans (by rw [c1'])
    have zT := hq1.blk.frozen
    have done : ∀ m, m ≤ (xk t).length → (∀ j, m ≤ j → j < (xk t).length → ((xk t).set i 2).getD j 0 = 2) → ∃ v' K', Dropped (xk t) K' i ∧ ThrP (wr.setCell ⟨T, t * 8, none⟩ (.slice (some ⟨g, 0, none⟩) m cap)) T (upd xv t v') (upd xk t K') qv ∧ Ch Et w (wr.setCell ⟨T, t * 8, none⟩ (.slice (some ⟨g, 0, none⟩) m cap)) := fun m hm ha => by
      obtain ⟨f1, f2⟩ := hq1.shorten ht hv (m := m) (by rw [upd_same]; simpa using hm)
      rw [upd_same, upd_upd] at f1
      refine ⟨_, _, ⟨m, hm, rfl, ha⟩, ⟨_, _, f1, fun u hu => ?_, fun u hu => ?_⟩, hE1.trans f2⟩
      · by_cases e : u = t
        · subst e
          rw [upd_same]
          have := hbig u hu
          simp
          omega
        · rw [upd_other _ _ e]
          exact hbig u hu
      · rw [upd_other _ _ (by omega), upd_other _ _ (by omega)]
        exact hhigh u hu
    rcases hm with ⟨rfl, rfl⟩ | ⟨m, rfl, rfl⟩
    · go_wp2
      go_end0
      exact ⟨rfl, done 0 (Nat.zero_le _) HALL.out⟩
    · obtain ⟨sz', c', _, _, _, b3, b4, b5⟩ := hq1.arr hv
      have hm1 : m < ((xk t).set i 2).length := by simp; omega
      obtain ⟨_, _, _, _, _, k5'⟩ := b5 m (by rw [upd_same]; exact hm1)
      rw [upd_same] at k5'
      have g5 : wr.cell? ⟨g, m * 6 + 5, none⟩ = some (.int .u8 ((((xk t).set i 2).getD m 0 : Nat) : Int)) := (b3.cell (by omega)).trans (by rw [k5'])
      have hmI : (m : Int) < ((xk t).length : Int) := by omega
      by_cases h2 : ((xk t).set i 2).getD m 0 = 2
      · have h2I : ((((xk t).set i 2).getD m 0 : Nat) : Int) = 2 := by rw [h2]; rfl
        rw [h2I] at g5
        obtain ⟨f1, f2⟩ := hq1.count ht hne (wrap64 (d' - 1))
        go_wp2_with fail
        go_roundg m
        case measure => omega
        case rel =>
          refine ⟨_, ?_, by omega, fun j j1 j2 => ?_, f1, hE1.trans f2⟩
          · by_cases hm0 : m = 0
            · exact .inl ⟨hm0, by subst hm0; rfl⟩
            · exact .inr ⟨m - 1, by omega, by rw [show ((m - 1 : Nat) : Int) = (m : Int) - 1 by omega]⟩
          · by_cases e : j = m
            · rw [e]; exact h2
            · exact HALL.out j (by omega) j2
      · have h2I : (((((xk t).set i 2).getD m 0 : Nat) : Int) == 2) = false := by
          simp only [beq_eq_false_iff_ne]
          omega
        generalize hu : ((xk t).set i 2).getD m 0 = u at g5 h2I
        go_wp2
        go_end0
        exact ⟨rfl, done (m + 1) hk HALL.out⟩

theorem ThrQ.same {w : World} {T : Nat} {tc xv qv : Nat → Value} {xk : Nat → List Nat} {lv : Nat → Nat} (h : ThrQ w T tc xv xk qv lv) (i : Nat) (v : Value) (hv : tc i = v) : ThrQ (w.setCell ⟨T, i, none⟩ v) T tc xv xk qv lv ∧ Ch Et w (w.setCell ⟨T, i, none⟩ v) :=
  ⟨⟨(h.blk.set i v).congr fun j _ => by
    by_cases e : j = i
    · simp [e, hv]
    · simp [e], fun u hu => (h.one u hu).turn (Nums.other ((One.refl T w).setCell _ _) h.blk (by decide)) fun _ _ _ => rfl, h.rows.of_blocks KRow.loc fun _ _ _ hk => heap_setCell_other _ _ _ _ (hk.ne h.blk (by decide))⟩, (Ch.refl _ w).setCell h.blk (.inl rfl) _ _⟩

set_option maxRecDepth 100000 in
set_option maxHeartbeats 2000000 in
theorem ndrop_any {w : World} {T : Nat} {xv qv : Nat → Value} {xk : Nat → List Nat} (h : ThrP w T xv xk qv) (t : Nat) (ht : t ≤ 2) (hK : (xk t).length ≤ 10000) (i kd : Nat) (hi : i < (xk t).length) (hkd : (xk t).getD i 0 = kd) (hkd1 : kd ≤ 1) :
    Calls Yba.prog 25 #[.pointer (some ⟨T, t * 8, none⟩), .int .i32 (i : Int)] w fun e w' => e = .returned (.tuple #[]) ∧
      ∃ v' K', Dropped (xk t) K' i ∧ ThrP w' T (upd xv t v') (upd xk t K') qv ∧ Ch Et w w' := by
  have cl := sdrop_any h t ht hK i kd hi hkd hkd1
  go_enter Yba.func25, Yba.ntmps25
  go_wp2_with fail
  refine cl.mono ?_
  rintro e w1 ⟨rfl, v', K', hD, ⟨tc, lv, hq, hbig, hhigh⟩, hE⟩
  have h1 := hq.one t ht
  have hb := hq.blk
  obtain ⟨a, cap, hv⟩ := (hq.rows.row t).val
  have q0 : w1.cell? ⟨T, t * 8, none⟩ = some (.slice a (upd xk t K' t).length cap) := (hb.cell (by omega)).trans (by rw [h1.c0, hv])
  have q6 : w1.cell? ⟨T, t * 8 + 6, none⟩ = some (.slice none 0 0) := (hb.cell (by omega)).trans (by rw [h1.c6])
  have zT := hb.frozen
  generalize (upd xk t K' t).length = n at q0
  by_cases h0 : 0 < n
  · have hI : (0 : Int) < (n : Int) := by omega
    go_wp2
    exact bodyPost_ret (results_none Yba.results25 _ _ _) rfl ⟨rfl, v', K', hD, ⟨tc, lv, hq, hbig, hhigh⟩, hE⟩
  · have h00 : n = 0 := by omega
    subst h00
    obtain ⟨f1, f2⟩ := hq.same (t * 8 + 6) (.slice none 0 0) h1.c6
    go_wp2_with fail
    go_loopw [23] (fun v wr => v = .int .i64 0 ∧ wr = w1) (fun _ _ => 0)
    case atStart => exact ⟨rfl, rfl⟩
    case round =>
      obtain ⟨rfl, rfl⟩ := hrel
      go_wp2
      go_end0
      exact ⟨rfl, v', K', hD, ⟨tc, lv, f1, hbig, hhigh⟩, hE.trans f2⟩

set_option maxRecDepth 100000 in
theorem section_any {w : World} {T : Nat} {tc xv qv : Nat → Value} {xk : Nat → List Nat} {lv : Nat → Nat} (h : ThrQ w T tc xv xk qv lv) (t : Nat) (ht : t ≤ 2) (i : Nat) (hi : i < (xk t).length) (g n cap : Nat) (hv : xv t = .slice (some ⟨g, 0, none⟩) n cap) :
    Calls Yba.prog 30 #[.pointer (some ⟨T, t * 8, none⟩), .int .i32 (i : Int)] w fun e w' => e = .returned (.pointer (some ⟨g, i * 6, none⟩)) ∧ w' = w := by
  obtain ⟨sz, c, hn, _⟩ := h.arr hv
  have q0 : w.cell? ⟨T, t * 8, none⟩ = some (.slice (some ⟨g, 0, none⟩) n cap) := (h.blk.cell (by omega)).trans (by rw [(h.one t ht).c0, hv])
  have hiI : (i : Int) < (n : Int) := by omega
  go_enter Yba.func30, Yba.ntmps30
  go_wp2
  go_ret
  exact ⟨rfl, rfl⟩

set_option maxRecDepth 100000 in
set_option maxHeartbeats 2000000 in
theorem scontest_any {w : World} {T : Nat} {xv qv : Nat → Value} {xk : Nat → List Nat} (h : ThrP w T xv xk qv) (t : Nat) (ht : t ≤ 2) (hK : (xk t).length ≤ 10000) (i : Nat) (hi : i < (xk t).length) :
    Calls Yba.prog 32 #[.pointer (some ⟨T, t * 8, none⟩), .int .i32 (i : Int)] w fun e w' => e = .returned (.tuple #[]) ∧ ThrP w' T xv (upd xk t ((xk t).set i 1)) qv ∧ Ch Et w w' := by
  obtain ⟨tc, lv, hq, hbig, hhigh⟩ := h
  rcases hq.rows.row t with ⟨_, h0⟩ | ⟨g, cap, sz, c, hv, k1, k2, k3, k4, k5⟩
  · rw [h0] at hi
    simp at hi
  obtain ⟨a0, a1, a2, a3, a4, a5⟩ := k5 i hi
  have h1 := hq.one t ht
  have hb := hq.blk
  have q0 : w.cell? ⟨T, t * 8, none⟩ = some (.slice (some ⟨g, 0, none⟩) (xk t).length cap) := (hb.cell (by omega)).trans (by rw [h1.c0, hv])
  have g5 : w.cell? ⟨g, i * 6 + 5, none⟩ = some (.int .u8 (((xk t).getD i 0 : Nat) : Int)) := (k3.cell (by omega)).trans (by rw [a5])
  have zg := k3.frozen
  have hiI : (i : Int) < ((xk t).length : Int) := by omega
  have hne : xv t ≠ .slice none 0 0 := by rw [hv]; simp
  obtain ⟨s2, e2⟩ := hq.kind hv i 1
  have hlen : (upd xk t ((xk t).set i 1) t).length = (xk t).length := by rw [upd_same]; simp
  have hib : i < lv t * 8 := by have := hbig t ht; omega
  have cu := update_thr s2 ht (sk := 0) (i := i) (by rw [hlen]; exact hK) (by omega) hne hib
  go_enter Yba.func32, Yba.ntmps32
  go_wp2_with fail
  refine cu.mono ?_
  rintro e w1 ⟨rfl, hq1, hc1⟩
  have cu := update_thr hq1 ht (sk := 1) (i := i) (by rw [hlen]; exact hK) (by omega) hne hib
  go_wp2_with fail
  refine cu.mono ?_
  rintro e w2 ⟨rfl, hq2, hc2⟩
  go_wp2
  go_end0
  refine ⟨rfl, ⟨tc, lv, hq2, fun u hu => ?_, fun u hu => ?_⟩, (e2.trans hc1).trans hc2⟩
  · by_cases e : u = t
    · subst e
      rw [hlen]
      exact hbig u hu
    · rw [upd_other _ _ e]
      exact hbig u hu
  · rw [upd_other _ _ (by omega)]
    exact hhigh u hu

#print axioms scontest_any
end Go.Proofs.Ybulkbzhm
