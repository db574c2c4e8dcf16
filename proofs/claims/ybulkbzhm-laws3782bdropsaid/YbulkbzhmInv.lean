/-
  What holds of the state between the steps; the reading functions where both arrays are made.
-/
import Derived.Test.YbulkbzhmStart
namespace Go.Proofs.Ybulkbzhm
set_option linter.unusedSectionVars false
variable [Base]
open Go.RowKit Go.Maps
open Go.WideShapes (add_plain)

/-- pendingKey. -/
def key (a l : Nat) : Int := ((a * 4294967296 + l : Nat) : Int)

structure Inv (N : Nat) (s : St) : Prop where
  thr : ∀ l k, l ≤ 2 → k < s.hn l → s.th (l, k) ≤ 2
  thd : ∀ l k k', l ≤ 2 → k < s.hn l → k' < s.hn l → s.th (l, k) = s.th (l, k') → k = k'
  lk : ∀ t i, t ≤ 2 → i < (s.ql t).length → ∃ l k, (s.ql t).getD i 0 = l ∧ l ≤ 2 ∧ k < s.hn l ∧ s.th (l, k) = t ∧ s.pl (l, k) = i
  kl : ∀ l k, l ≤ 2 → k < s.hn l → s.pl (l, k) < (s.ql (s.th (l, k))).length ∧ (s.ql (s.th (l, k))).getD (s.pl (l, k)) 0 = l
  sin : ∀ l k n, l ≤ 2 → k < s.hn l → n ∈ s.sl (l, k) → n < (s.xk (s.th (l, k))).length ∧ (s.xk (s.th (l, k))).getD n 0 ≠ 2
  snd : ∀ l k, l ≤ 2 → k < s.hn l → (s.sl (l, k)).Nodup
  sdj : ∀ l k l' k' n, l ≤ 2 → l' ≤ 2 → k < s.hn l → k' < s.hn l' → s.th (l, k) = s.th (l', k') → n ∈ s.sl (l, k) → n ∈ s.sl (l', k') → l = l'
  room : ∀ l k, l ≤ 2 → s.hn l ≤ k → s.sl (l, k) = [] ∧ s.pd (l, k) = []
  pin : ∀ l k a, l ≤ 2 → k < s.hn l → a ∈ s.pd (l, k) → a ≤ 3 ∧ s.ph (key a l) = true
  pnd : ∀ l k, l ≤ 2 → k < s.hn l → (s.pd (l, k)).Nodup
  pdj : ∀ l k k' a, l ≤ 2 → k < s.hn l → k' < s.hn l → a ∈ s.pd (l, k) → a ∈ s.pd (l, k') → k = k'
  cin : ∀ i, i < (s.ql 3).length → (s.ql 3).getD i 0 ≤ 2 ∧ s.ct ((s.ql 3).getD i 0) = i + 1
  cct : ∀ l, l ≤ 2 → s.ct l ≠ 0 → s.ct l - 1 < (s.ql 3).length ∧ (s.ql 3).getD (s.ct l - 1) 0 = l
  kd : ∀ t n, t ≤ 2 → n < (s.xk t).length → (s.xk t).getD n 0 ≤ 2
  b5 : s.qv 5 = nilS ∧ s.ql 5 = []
  b8 : s.xv 8 = nilS ∧ s.xk 8 = []
  zx : ∀ t, t ≤ 2 → (s.xk t).length ≤ N
  zq : ∀ t, t ≤ 3 → (s.ql t).length ≤ N
  zh : ∀ l, l ≤ 2 → s.hn l ≤ N
  zs : ∀ l k, l ≤ 2 → (s.sl (l, k)).length ≤ N
  zp : ∀ l k, l ≤ 2 → (s.pd (l, k)).length ≤ N
  zz : s.pz ≤ N

theorem Inv.mono {N M : Nat} {s : St} (h : Inv N s) (hNM : N ≤ M) : Inv M s :=
  ⟨h.thr, h.thd, h.lk, h.kl, h.sin, h.snd, h.sdj, h.room, h.pin, h.pnd, h.pdj, h.cin, h.cct, h.kd, h.b5, h.b8, fun t ht => Nat.le_trans (h.zx t ht) hNM, fun t ht => Nat.le_trans (h.zq t ht) hNM, fun t ht => Nat.le_trans (h.zh t ht) hNM, fun t k ht => Nat.le_trans (h.zs t k ht) hNM, fun t k ht => Nat.le_trans (h.zp t k ht) hNM, Nat.le_trans h.zz hNM⟩

theorem Inv.setL {N : Nat} {s : St} (h : Inv N s) (L : Option Nat) : Inv N { s with L := L } := ⟨h.thr, h.thd, h.lk, h.kl, h.sin, h.snd, h.sdj, h.room, h.pin, h.pnd, h.pdj, h.cin, h.cct, h.kd, h.b5, h.b8, h.zx, h.zq, h.zh, h.zs, h.zp, h.zz⟩
theorem Inv.setT {N : Nat} {s : St} (h : Inv N s) (T : Option Nat) : Inv N { s with T := T } := ⟨h.thr, h.thd, h.lk, h.kl, h.sin, h.snd, h.sdj, h.room, h.pin, h.pnd, h.pdj, h.cin, h.cct, h.kd, h.b5, h.b8, h.zx, h.zq, h.zh, h.zs, h.zp, h.zz⟩

/-- The locks of a thread are distinct. -/
theorem Inv.nodup {N : Nat} {s : St} (h : Inv N s) {t i j : Nat} (ht : t ≤ 2) (hi : i < (s.ql t).length) (hj : j < (s.ql t).length) (he : (s.ql t).getD i 0 = (s.ql t).getD j 0) : i = j := by
  obtain ⟨l, k, e1, hl, hk, ht1, hp⟩ := h.lk t i ht hi
  obtain ⟨l', k', e2, _, hk', ht2, hp'⟩ := h.lk t j ht hj
  have : l = l' := by rw [← e1, ← e2, he]
  subst this
  have : k = k' := h.thd l k k' hl hk hk' (ht1.trans ht2.symm)
  subst this
  exact hp.symm.trans hp'

section
variable {w : World} {s : St}

theorem Rep.segL (h : Rep w s) {LS : Nat} (hL : s.L = some LS) : ∃ SG c, w.cell? ⟨s.D, 0, none⟩ = some (.slice (some ⟨SG, 0, none⟩) 1 c) ∧ w.cell? ⟨SG, 0, none⟩ = some (.slice (some ⟨LS, 0, none⟩) 64 64) := by
  obtain ⟨dv, b, sg, st, d7, d8⟩ := h.d
  rcases sg with ⟨h0, hd⟩ | ⟨LS', SG, c, sz, cs, h0, hd, k1, k2, k3⟩
  · rw [h0] at hL
    simp at hL
  · rw [h0] at hL
    simp at hL
    subst hL
    exact ⟨SG, c, (b.cell (by omega)).trans (by rw [hd]), (k1.cell k2).trans (by rw [k3])⟩

theorem Rep.segT (h : Rep w s) {TS : Nat} (hT : s.T = some TS) : ∃ SG c, w.cell? ⟨s.D, 1, none⟩ = some (.slice (some ⟨SG, 0, none⟩) 1 c) ∧ w.cell? ⟨SG, 0, none⟩ = some (.slice (some ⟨TS, 0, none⟩) 64 64) := by
  obtain ⟨dv, b, sg, st, d7, d8⟩ := h.d
  rcases st with ⟨h0, hd⟩ | ⟨LS', SG, c, sz, cs, h0, hd, k1, k2, k3⟩
  · rw [h0] at hT
    simp at hT
  · rw [h0] at hT
    simp at hT
    subst hT
    exact ⟨SG, c, (b.cell (by omega)).trans (by rw [hd]), (k1.cell k2).trans (by rw [k3])⟩

theorem get19_made (h : Rep w s) {LS : Nat} (hL : s.L = some LS) (l : Nat) (hl : l ≤ 2) : Calls Yba.prog 19 #[.pointer (some ⟨s.D, 0, none⟩), .int .i64 (l : Int)] w fun e w' => e = .returned (.pointer (some ⟨LS, l * 4, none⟩)) ∧ ∃ m, w' = w.drewN m := by
  obtain ⟨SG, c, h0, h1⟩ := h.segL hL
  exact get19_there s.D 0 SG LS c l w hl h0 h1

theorem get20_made (h : Rep w s) {TS : Nat} (hT : s.T = some TS) (t : Nat) (ht : t ≤ 2) : Calls Yba.prog 20 #[.pointer (some ⟨s.D, 1, none⟩), .int .i64 (t : Int)] w fun e w' => e = .returned (.pointer (some ⟨TS, t * 8, none⟩)) ∧ ∃ m, w' = w.drewN m := by
  obtain ⟨SG, c, h0, h1⟩ := h.segT hT
  exact get20_there s.D 1 SG TS c t w ht h0 h1

set_option maxRecDepth 100000 in
theorem isContested_made (h : Rep w s) {LS : Nat} (hL : s.L = some LS) (l : Nat) (hl : l ≤ 2) :
    Calls Yba.prog 7 #[.pointer (some ⟨s.D, 0, none⟩), .int .i64 (l : Int)] w fun e w' => e = .returned (.bool (!decide (s.ct l = 0))) ∧ ∃ m, w' = w.drewN m := by
  have cl := get19_made h hL l hl
  obtain ⟨lc, b0, b1, b2, b3⟩ := h.ld hL hl
  go_enter Yba.func7, Yba.ntmps7
  go_wp2_with fail
  refine cl.mono ?_
  rintro e w1 ⟨rfl, m, rfl⟩
  go_wp2
  go_ret
  refine ⟨?_, m, rfl⟩
  by_cases hc : s.ct l = 0
  · simp [hc]
  · have : ((s.ct l : Int) == 0) = false := by
      simp only [beq_eq_false_iff_ne]
      omega
    simp [hc]

/-- What hold answers. -/
def Held (s : St) (t l : Nat) (v : Value) : Prop :=
  (v = .pointer none ∧ ∀ k, k < s.hn l → s.th (l, k) ≠ t) ∨ ∃ k g, k < s.hn l ∧ s.th (l, k) = t ∧ s.hv l = .slice (some ⟨g, 0, none⟩) (s.hn l) (s.hc l) ∧ v = .pointer (some ⟨g, k * 4, none⟩)

set_option maxRecDepth 100000 in
theorem hold_made (h : Rep w s) {LS : Nat} (hL : s.L = some LS) (t l : Nat) (hl : l ≤ 2) :
    Calls Yba.prog 6 #[.pointer (some ⟨s.D, 0, none⟩), .int .i64 (t : Int), .int .i64 (l : Int)] w fun e w' => ∃ v, e = .returned v ∧ Held s t l v ∧ ∃ m, w' = w.drewN m := by
  have cl := get19_made h hL l hl
  obtain ⟨⟨a, hv⟩, hn, hm⟩ := h.holds.val l
  have hmI : (s.hn l : Int) ≤ 9223372036854775807 := by have := maxLen_int; omega
  obtain ⟨lc, b0, b1, b2, b3⟩ := h.ld hL hl
  have HV : Hid (s.hv l = .slice a (s.hn l) (s.hc l)) := hv
  rw [hv] at b1
  clear hv
  go_enter Yba.func6, Yba.ntmps6
  go_wp2_with fail
  refine cl.mono ?_
  rintro e w1 ⟨rfl, m, rfl⟩
  go_wp2_with fail
  go_loopg [19] (s.hn l) (fun k v wr => ∃ i : Nat, k + i = s.hn l ∧ v = .int .i64 (i : Int) ∧ wr = w.drewN m ∧ ∀ j, j < i → s.th (l, j) ≠ t)
  case atStart => exact ⟨0, by omega, rfl, rfl, fun j hj => by omega⟩
  case round =>
    obtain ⟨i, hk, rfl, rfl, hall⟩ := hrel
    have HALL : Hid (∀ j, j < i → s.th (l, j) ≠ t) := hall
    clear hall
    by_cases hi : i < s.hn l
    · obtain ⟨g, c, g0, g1, g2, g3, g4, g5, g6⟩ := h.holds.at (l := l) (k := i) (by omega)
      rw [HV.out] at g0
      simp at g0
      subst g0
      have hiI : (i : Int) < (s.hn l : Int) := by omega
      by_cases hth : s.th (l, i) = t
      · have HT : Hid (s.th (l, i) = t) := hth
        rw [hth] at g2
        clear hth
        go_wp2
        go_ret
        exact ⟨_, rfl, .inr ⟨i, g, hi, HT.out, HV.out, rfl⟩, m, rfl⟩
      · have hthI : ((s.th (l, i) : Int) == (t : Int)) = false := by
          simp only [beq_eq_false_iff_ne]
          omega
        go_wp2
        go_roundg (gk - 1)
        case measure => omega
        case rel =>
          refine ⟨i + 1, by omega, by go_num, rfl, fun j hj => ?_⟩
          by_cases e : j = i
          · rw [e]; exact hth
          · exact HALL.out j (by omega)
    · have : i = s.hn l := by omega
      subst this
      go_wp2
      go_ret
      exact ⟨_, rfl, .inl ⟨rfl, HALL.out⟩, m, rfl⟩

end

#print axioms hold_made
end Go.Proofs.Ybulkbzhm
