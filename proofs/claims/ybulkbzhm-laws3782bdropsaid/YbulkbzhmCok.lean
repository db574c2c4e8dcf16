/-
  contestedok.
-/
import Derived.Test.YbulkbzhmMasks
import Derived.Test.YbulkbzhmPend
namespace Go.Proofs.Ybulkbzhm
set_option linter.unusedSectionVars false
variable [Base]
open Go.RowKit Go.Maps
open Go.WideShapes (add_plain)

/-- How many of the first a locks are contested. -/
def cnt (s : St) : Nat → Nat
  | 0 => 0
  | a + 1 => cnt s a + if s.ct a = 0 then 0 else 1

theorem Inv.cnt {N : Nat} {s : St} (h : Inv N s) : cnt s 3 = (s.ql 3).length := by
  have hd : ∀ i, i < (s.ql 3).length → s.ct 0 = i + 1 ∨ s.ct 1 = i + 1 ∨ s.ct 2 = i + 1 := fun i hi => by
    obtain ⟨a, b⟩ := h.cin i hi
    generalize (s.ql 3).getD i 0 = q at a b
    rcases (by omega : q = 0 ∨ q = 1 ∨ q = 2) with rfl | rfl | rfl <;> simp [b]
  have hb : ∀ l, l ≤ 2 → s.ct l ≠ 0 → s.ct l ≤ (s.ql 3).length := fun l hl h0 => by
    have := (h.cct l hl h0).1
    omega
  have hne : ∀ l l', l ≤ 2 → l' ≤ 2 → l ≠ l' → s.ct l ≠ 0 → s.ct l ≠ s.ct l' := fun l l' hl hl' hn h0 he => by
    have h1 := (h.cct l hl h0).2
    have h2 := (h.cct l' hl' (by omega)).2
    rw [he] at h1
    omega
  have d0 := hd 0
  have d1 := hd 1
  have d2 := hd 2
  have d3 := hd 3
  have b0 := hb 0 (by omega)
  have b1 := hb 1 (by omega)
  have b2 := hb 2 (by omega)
  have n1 := hne 0 1 (by omega) (by omega) (by omega)
  have n2 := hne 0 2 (by omega) (by omega) (by omega)
  have n3 := hne 1 2 (by omega) (by omega) (by omega)
  generalize (s.ql 3).length = n at *
  generalize e0 : s.ct 0 = c0 at *
  generalize e1 : s.ct 1 = c1 at *
  generalize e2 : s.ct 2 = c2 at *
  simp only [Ybulkbzhm.cnt, e0, e1, e2]
  by_cases h0 : c0 = 0 <;> by_cases h1 : c1 = 0 <;> by_cases h2 : c2 = 0 <;> simp only [h0, h1, h2, if_true, if_false] <;> omega

theorem cnt_le (s : St) (a : Nat) : cnt s a ≤ a := by
  induction a with
  | zero => exact Nat.le_refl _
  | succ a ih =>
    show cnt s a + (if s.ct a = 0 then 0 else 1) ≤ a + 1
    split <;> omega

set_option maxRecDepth 100000 in
set_option maxHeartbeats 1000000 in
theorem contestedok_made {w : World} {s : St} {N : Nat} (h : Rep w s) (hI : Inv N s) (hN : N ≤ 5000) {LS : Nat} (hL : s.L = some LS) :
    Calls Yba.prog 12 #[.pointer (some ⟨s.D, 0, none⟩)] w fun e w' => e = .returned (.bool true) ∧ ∃ m, w' = w.drewN m := by
  obtain ⟨-, q7, -, -⟩ := h.dcell
  obtain ⟨aq, cq, hqv⟩ := (h.locks.row 3).val
  rw [hqv] at q7
  have HQV : Hid (s.qv 3 = .slice aq (s.ql 3).length cq) := hqv
  have hz : ((s.ql 3).length : Int) ≤ 5000 := by have := hI.zq 3 (by omega); omega
  have HC : Hid (cnt s 3 = (s.ql 3).length) := hI.cnt
  clear hqv
  go_enter Yba.func12, Yba.ntmps12
  go_wp2_with fail
  go_loopg [12] (s.ql 3).length (fun gk v wr => ∃ i m : Nat, gk + i = (s.ql 3).length ∧ v = .int .i64 (i : Int) ∧ wr = w.drewN m)
  case atStart => exact ⟨0, 0, by omega, rfl, rfl⟩
  case round =>
    obtain ⟨i, m, hgi, rfl, rfl⟩ := hrel
    by_cases hi : i < (s.ql 3).length
    · have hiI : (i : Int) < ((s.ql 3).length : Int) := by omega
      obtain ⟨gs, capx, szs, cs, hx1, -, -, -, -, hx5⟩ := (h.locks.row 3).at hi
      rw [HQV.out] at hx1
      simp at hx1
      obtain ⟨rfl, rfl⟩ := hx1
      obtain ⟨hc2, hct⟩ := hI.cin i hi
      generalize (s.ql 3).getD i 0 = c at hc2 hct hx5
      have cl := get19_made (h.drewN m) hL c hc2
      obtain ⟨lc, -, -, q2, -⟩ := h.ld hL hc2
      rw [hct] at q2
      have hcI : (c : Int) ≤ 2 := by omega
      clear hct
      go_wp2_with fail
      refine cl.mono ?_
      rintro e w1 ⟨rfl, m1, rfl⟩
      go_wp2_with fail
      go_roundg (gk - 1)
      case measure => omega
      case rel => exact ⟨i + 1, m + m1, by omega, by go_num, by simp⟩
    · have : i = (s.ql 3).length := by omega
      subst this
      go_wp2_with fail
      go_loopg [5, 6] 3 (fun g2 v5 v6 wr => ∃ a m : Nat, g2 + a = 3 ∧ v5 = .int .i64 (cnt s a : Int) ∧ v6 = .int .i64 (a : Int) ∧ wr = w.drewN m)
      case atStart => exact ⟨0, m, by omega, rfl, rfl, rfl⟩
      case round =>
        obtain ⟨a, m, hga, rfl, rfl, rfl⟩ := hrel
        by_cases ha : a < 3
        · have haI : (a : Int) < 3 := by omega
          have cl := get19_made (h.drewN m) hL a (by omega)
          obtain ⟨lc, -, -, q2, -⟩ := h.ld hL (l := a) (by omega)
          have hle : (cnt s a : Int) ≤ 3 := by have := cnt_le s a; omega
          go_wp2_with fail
          refine cl.mono ?_
          rintro e w1 ⟨rfl, m1, rfl⟩
          by_cases hc : s.ct a = 0
          · have HS : Hid (cnt s (a + 1) = cnt s a) := by show cnt s a + (if s.ct a = 0 then 0 else 1) = cnt s a; rw [if_pos hc, Nat.add_zero]
            rw [hc] at q2
            clear hc
            go_wp2_with fail
            go_roundg (2 - a)
            case measure => omega
            case rel => exact ⟨a + 1, m + m1, by omega, by rw [HS.out], by go_num, by simp⟩
          · have HS : Hid (cnt s (a + 1) = cnt s a + 1) := by show cnt s a + (if s.ct a = 0 then 0 else 1) = cnt s a + 1; rw [if_neg hc]
            have hcI : ((s.ct a : Int) == 0) = false := by
              simp only [beq_eq_false_iff_ne]
              omega
            go_wp2_with fail
            go_roundg (2 - a)
            case measure => omega
            case rel => exact ⟨a + 1, m + m1, by omega, by rw [HS.out]; go_num, by go_num, by simp⟩
        · have : a = 3 := by omega
          subst this
          have hcc : (cnt s 3 : Int) = ((s.ql 3).length : Int) := by have := HC.out; omega
          go_wp2
          go_ret
          exact ⟨rfl, m, rfl⟩

#print axioms contestedok_made
end Go.Proofs.Ybulkbzhm
