/-
  The threads' part of the memory: the array of nestedSections (block T), the sections' arrays, the trees.
-/
import Derived.Test.YbulkbzhmSlots
namespace Go.Proofs.Ybulkbzhm
set_option linter.unusedSectionVars false
variable [Base]
open Go.RowKit
open Go.WideShapes (add_plain)

/-- The cells of sections of the kinds K. -/
def SecV (c : Nat → Value) (K : List Nat) : Prop :=
  ∀ j, j < K.length → (∃ s : Int, c (j * 6) = .int .u64 s) ∧ c (j * 6 + 1) = .int .u64 0 ∧ c (j * 6 + 2) = .int .u64 0 ∧ c (j * 6 + 3) = .pointer none ∧ c (j * 6 + 4) = .int .u32 0 ∧ c (j * 6 + 5) = .int .u8 ((K.getD j 0 : Nat) : Int)

/-- The slice v holds sections of the kinds K. -/
def KRow (w : World) (v : Value) (K : List Nat) : Prop :=
  (v = .slice none 0 0 ∧ K = []) ∨ ∃ g cap sz c, v = .slice (some ⟨g, 0, none⟩) K.length cap ∧ K.length ≤ cap ∧ cap ≤ maxLen ∧ Blk w g 87 sz c ∧ cap * 6 ≤ sz ∧ SecV c K

theorem KRow.slice {w : World} {v : Value} {K : List Nat} (h : KRow w v K) : ∃ x, SliceIs w 87 6 v K.length x := by
  rcases h with ⟨rfl, rfl⟩ | ⟨g, cap, sz, c, rfl, h1, h2, h3, h4, h5⟩
  · exact ⟨fun _ => undef, SliceIs.nil _ _ _ _⟩
  · exact ⟨fun j => c j, .inr ⟨g, 0, cap, sz, c, rfl, h1, h2, h3, by omega, fun j _ => by simp⟩⟩

theorem KRow.val {w : World} {v : Value} {K : List Nat} (h : KRow w v K) : ∃ a cap, v = .slice a K.length cap := by
  rcases h with ⟨rfl, rfl⟩ | ⟨g, cap, sz, c, rfl, _⟩
  · exact ⟨_, _, rfl⟩
  · exact ⟨_, _, rfl⟩

theorem KRow.loc : Loc 87 KRow := by
  refine ⟨fun {w w' v K} h hb => ?_, fun {w v K g} h hg => ?_⟩
  · rcases h with h | ⟨g, cap, sz, c, rfl, h1, h2, h3, h4, h5⟩
    · exact .inl h
    · exact .inr ⟨g, cap, sz, c, rfl, h1, h2, h3.of_block (hb g rfl), h4, h5⟩
  · obtain ⟨x, hx⟩ := h.slice
    exact hx.typed hg

theorem SecV.append {c c' : Nat → Value} {K : List Nat} (h : SecV c K) (kd : Nat) (s : Int) (hold : ∀ j, j < K.length * 6 → c' j = c j) (n0 : c' (K.length * 6) = .int .u64 s) (n1 : c' (K.length * 6 + 1) = .int .u64 0) (n2 : c' (K.length * 6 + 2) = .int .u64 0) (n3 : c' (K.length * 6 + 3) = .pointer none) (n4 : c' (K.length * 6 + 4) = .int .u32 0) (n5 : c' (K.length * 6 + 5) = .int .u8 (kd : Int)) : SecV c' (K ++ [kd]) := by
  intro j hj
  simp at hj
  by_cases e : j = K.length
  · subst e
    refine ⟨⟨s, n0⟩, n1, n2, n3, n4, ?_⟩
    rw [n5]
    simp [List.getD]
  · have hlt : j < K.length := by omega
    obtain ⟨⟨s', a0⟩, a1, a2, a3, a4, a5⟩ := h j hlt
    refine ⟨⟨s', by rw [hold _ (by omega), a0]⟩, by rw [hold _ (by omega), a1], by rw [hold _ (by omega), a2], by rw [hold _ (by omega), a3], by rw [hold _ (by omega), a4], ?_⟩
    rw [hold _ (by omega), a5]
    simp [List.getD, List.getElem?_append_left hlt]

theorem KRow.append {w w' : World} {v v' : Value} {K : List Nat} (h : KRow w v K) (kd : Nat) (s : Int) {nw : Nat → Value} (n0 : nw 0 = .int .u64 s) (n1 : nw 1 = .int .u64 0) (n2 : nw 2 = .int .u64 0) (n3 : nw 3 = .pointer none) (n4 : nw 4 = .int .u32 0) (n5 : nw 5 = .int .u8 (kd : Int))
    (ha : Appended w w' 87 6 v v' K.length nw) : KRow w' v' (K ++ [kd]) := by
  rcases ha with ⟨g, o, cap, rfl, hroom, rfl, hg, hsz, hbk⟩ | ⟨cap, c', rfl, hroom, hcm, hg, hsz, hbk, hnew, hold⟩
  · rcases h with ⟨h, _⟩ | ⟨g', cap', sz, c, hv, h1, h2, h3, h4, h5⟩
    · simp at h
    · simp at hv
      obtain ⟨⟨rfl, rfl⟩, rfl⟩ := hv
      have hb := hbk sz c h3 (by omega)
      refine .inr ⟨g, cap, sz, _, by simp, by simp; omega, h2, hb, h4, ?_⟩
      refine h5.append kd s (fun j hj => ?_) ?_ ?_ ?_ ?_ ?_ ?_
      · have : ¬ (0 + K.length * 6 ≤ j ∧ j < 0 + (K.length + 1) * 6) := by omega
        simp only [this, if_false]
      all_goals
        rw [if_pos (by omega)]
        first
          | rw [← n0]
          | rw [← n1]
          | rw [← n3]
          | rw [← n4]
          | rw [← n5]
        first
          | (congr 1; omega)
          | (rw [n1, ← n2]; congr 1; omega)
  · refine .inr ⟨w.heap.size, cap, cap * 6, c', by simp, by simp; omega, hcm, hbk, by omega, ?_⟩
    have e0 := hnew 0 (by omega)
    have e1 := hnew 1 (by omega)
    have e2 := hnew 2 (by omega)
    have e3 := hnew 3 (by omega)
    have e4 := hnew 4 (by omega)
    have e5 := hnew 5 (by omega)
    rcases h with ⟨_, rfl⟩ | ⟨g, cap', sz, c, rfl, h1, h2, h3, h4, h5⟩
    · refine SecV.append (c := c') (fun j hj => by simp at hj) kd s (fun j hj => rfl) (e0.trans n0) (e1.trans n1) (e2.trans n2) (e3.trans n3) (e4.trans n4) (e5.trans n5)
    · refine h5.append kd s (fun j hj => ?_) (e0.trans n0) (e1.trans n1) (e2.trans n2) (e3.trans n3) (e4.trans n4) (e5.trans n5)
      simpa using hold g 0 cap' sz c rfl h3 (by omega) j hj

theorem KRow.kind {w : World} {g n cap : Nat} {K : List Nat} (h : KRow w (.slice (some ⟨g, 0, none⟩) n cap) K) (i kd : Nat) : KRow (w.setCell ⟨g, i * 6 + 5, none⟩ (.int .u8 (kd : Int))) (.slice (some ⟨g, 0, none⟩) n cap) (K.set i kd) := by
  rcases h with ⟨h, _⟩ | ⟨g', cap', sz, c, hv, h1, h2, h3, h4, h5⟩
  · simp at h
  · simp at hv
    obtain ⟨rfl, hn, rfl⟩ := hv
    refine .inr ⟨g, cap, sz, _, by simp [hn], by simpa using h1, h2, h3.set _ _, h4, fun j hj => ?_⟩
    simp at hj
    obtain ⟨⟨s, a0⟩, a1, a2, a3, a4, a5⟩ := h5 j hj
    have m0 : ¬ j * 6 = i * 6 + 5 := by omega
    have m1 : ¬ j * 6 + 1 = i * 6 + 5 := by omega
    have m2 : ¬ j * 6 + 2 = i * 6 + 5 := by omega
    have m3 : ¬ j * 6 + 3 = i * 6 + 5 := by omega
    have m4 : ¬ j * 6 + 4 = i * 6 + 5 := by omega
    refine ⟨⟨s, (if_neg m0).trans a0⟩, (if_neg m1).trans a1, (if_neg m2).trans a2, (if_neg m3).trans a3, (if_neg m4).trans a4, ?_⟩
    by_cases e : j = i
    · subst e
      simp [List.getD, hj]
    · have e1 : ¬ j * 6 + 5 = i * 6 + 5 := by omega
      have e2 : ¬ i = j := fun h => e h.symm
      simp only [e1, if_false]
      rw [a5]
      simp [List.getD, e2]

theorem KRow.clock {w : World} {g n cap : Nat} {K : List Nat} (h : KRow w (.slice (some ⟨g, 0, none⟩) n cap) K) (i : Nat) : KRow (w.setCell ⟨g, i * 6 + 3, none⟩ (.pointer none)) (.slice (some ⟨g, 0, none⟩) n cap) K := by
  rcases h with ⟨h, _⟩ | ⟨g', cap', sz, c, hv, h1, h2, h3, h4, h5⟩
  · simp at h
  · simp at hv
    obtain ⟨rfl, hn, rfl⟩ := hv
    refine .inr ⟨g, cap, sz, _, by simp [hn], by simpa using h1, h2, h3.set _ _, h4, fun j hj => ?_⟩
    obtain ⟨⟨s, a0⟩, a1, a2, a3, a4, a5⟩ := h5 j hj
    have m0 : ¬ j * 6 = i * 6 + 3 := by omega
    have m1 : ¬ j * 6 + 1 = i * 6 + 3 := by omega
    have m2 : ¬ j * 6 + 2 = i * 6 + 3 := by omega
    have m4 : ¬ j * 6 + 4 = i * 6 + 3 := by omega
    have m5 : ¬ j * 6 + 5 = i * 6 + 3 := by omega
    exact ⟨⟨s, (if_neg m0).trans a0⟩, (if_neg m1).trans a1, (if_neg m2).trans a2, by simp [a3], (if_neg m4).trans a4, (if_neg m5).trans a5⟩

theorem KRow.take {w : World} {g n cap : Nat} {K : List Nat} (h : KRow w (.slice (some ⟨g, 0, none⟩) n cap) K) {m : Nat} (hm : m ≤ K.length) : KRow w (.slice (some ⟨g, 0, none⟩) m cap) (K.take m) := by
  rcases h with ⟨h, _⟩ | ⟨g', cap', sz, c, hv, h1, h2, h3, h4, h5⟩
  · simp at h
  · simp at hv
    obtain ⟨rfl, hn, rfl⟩ := hv
    have hl : (K.take m).length = m := by simp; omega
    refine .inr ⟨g, cap, sz, c, by rw [hl], by omega, h2, h3, h4, fun j hj => ?_⟩
    rw [hl] at hj
    obtain ⟨a0, a1, a2, a3, a4, a5⟩ := h5 j (by omega)
    refine ⟨a0, a1, a2, a3, a4, ?_⟩
    rw [a5]
    simp [List.getD, hj]

/-- One thread's cells, from place o on. -/
structure Thr1 (w : World) (tc : Nat → Value) (o : Nat) (v q : Value) (lv : Nat) : Prop where
  c0 : tc o = v
  c1 : ∃ a : Int, tc (o + 1) = .int .i64 a ∧ (v = .slice none 0 0 → a = 0)
  c2 : tc (o + 2) = .int .i64 (lv : Int)
  c3 : LeastV w (tc (o + 3)) lv
  c4 : LeastV w (tc (o + 4)) lv
  c5 : tc (o + 5) = q
  c6 : tc (o + 6) = .slice none 0 0
  c7 : tc (o + 7) = .map none
  hlv : lv ≤ 20000

/-- The threads' part, the trees' sizes said. -/
structure ThrQ (w : World) (T : Nat) (tc : Nat → Value) (xv : Nat → Value) (xk : Nat → List Nat) (qv : Nat → Value) (lv : Nat → Nat) : Prop where
  blk : Blk w T 104 512 tc
  one : ∀ t, t ≤ 2 → Thr1 w tc (t * 8) (xv t) (qv t) (lv t)
  rows : Fam KRow w xv xk

/-- The threads' part. -/
def ThrP (w : World) (T : Nat) (xv : Nat → Value) (xk : Nat → List Nat) (qv : Nat → Value) : Prop :=
  ∃ tc lv, ThrQ w T tc xv xk qv lv ∧ (∀ t, t ≤ 2 → (xk t).length ≤ lv t * 8) ∧ ∀ t, 2 < t → t ≠ 8 → xv t = .slice none 0 0 ∧ xk t = []

/-- What the functions on sections may turn. -/
def Et (e : TypeId) : Prop := e = 104 ∨ e = 70 ∨ e = 87

theorem Eg.et {e : TypeId} (h : Eg e) : Et e := by
  rcases h with h | h
  · exact .inl h
  · exact .inr (.inl h)

theorem Thr1.turn {w w' : World} {tc tc' : Nat → Value} {o : Nat} {v q : Value} {lv : Nat} (h : Thr1 w tc o v q lv) (hn : Nums w w') (hc : ∀ j, o ≤ j → j < o + 8 → tc' j = tc j) : Thr1 w' tc' o v q lv := by
  obtain ⟨c0, c1, c2, c3, c4, c5, c6, c7, hl⟩ := h
  refine ⟨by rw [hc _ (by omega) (by omega), c0], by rw [hc _ (by omega) (by omega)]; exact c1, by rw [hc _ (by omega) (by omega), c2], by rw [hc _ (by omega) (by omega)]; exact c3.nums hn, by rw [hc _ (by omega) (by omega)]; exact c4.nums hn, by rw [hc _ (by omega) (by omega), c5], by rw [hc _ (by omega) (by omega), c6], by rw [hc _ (by omega) (by omega), c7], hl⟩

/-- One thread turns. -/
theorem ThrQ.turn {w w' : World} {T : Nat} {tc tc' xv qv : Nat → Value} {xk : Nat → List Nat} {lv : Nat → Nat} (h : ThrQ w T tc xv xk qv lv) (t : Nat) (hb : Blk w' T 104 512 tc') (hc : ∀ j, j < t * 8 ∨ t * 8 + 8 ≤ j → tc' j = tc j) (hn : Nums w w') {v' q' : Value} {K' : List Nat} {lv' : Nat}
    (hr : Fam KRow w' (upd xv t v') (upd xk t K')) (h1 : Thr1 w' tc' (t * 8) v' q' lv') : ThrQ w' T tc' (upd xv t v') (upd xk t K') (upd qv t q') (upd lv t lv') := by
  refine ⟨hb, fun u hu => ?_, hr⟩
  by_cases e : u = t
  · subst e
    rw [upd_same, upd_same, upd_same]
    exact h1
  · rw [upd_other _ _ e, upd_other _ _ e, upd_other _ _ e]
    exact (h.one u hu).turn hn fun j j1 j2 => hc j (by omega)

#print axioms ThrQ.turn
end Go.Proofs.Ybulkbzhm
