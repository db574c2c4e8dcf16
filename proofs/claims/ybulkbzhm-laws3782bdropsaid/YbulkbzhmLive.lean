/-
  live: how many slots hold a section.
-/
import Derived.Test.YbulkbzhmDrop
namespace Go.Proofs.Ybulkbzhm
set_option linter.unusedSectionVars false
variable [Base]
open Go.RowKit
open Go.WideShapes (add_plain)

/-- The kinds of the slots that hold a section. -/
def liveK (K : List Nat) : List Nat := K.filter (fun k => k != 2)

theorem liveK_succ (K : List Nat) (j : Nat) (hj : j < K.length) : liveK (K.take (j + 1)) = liveK (K.take j) ++ (if K.getD j 0 = 2 then [] else [K.getD j 0]) := by
  unfold liveK
  rw [List.take_add_one, List.filter_append]
  congr 1
  have : K[j]? = some (K.getD j 0) := by simp [List.getD, hj]
  rw [this]
  generalize K.getD j 0 = u
  by_cases h : u = 2
  · simp [h]
  · simp [h]

set_option maxRecDepth 100000 in
theorem live_any {w : World} {T : Nat} {tc xv qv : Nat → Value} {xk : Nat → List Nat} {lv : Nat → Nat} (h : ThrQ w T tc xv xk qv lv) (t : Nat) (ht : t ≤ 2) (hK : (xk t).length ≤ 10000) :
    Calls Yba.prog 8 #[.pointer (some ⟨T, t * 8, none⟩)] w fun e w' => e = .returned (.int .i64 ((liveK (xk t)).length : Int)) ∧ w' = w := by
  obtain ⟨a, cap, hv⟩ := (h.rows.row t).val
  have h1 := h.one t ht
  have q0 : w.cell? ⟨T, t * 8, none⟩ = some (.slice a (xk t).length cap) := (h.blk.cell (by omega)).trans (by rw [h1.c0, hv])
  go_enter Yba.func8, Yba.ntmps8
  go_wp2
  go_loopw [3, 11] (fun m v wr => ∃ j : Nat, j ≤ (xk t).length ∧ v = .int .i64 (j : Int) ∧ m = .int .i64 ((liveK ((xk t).take j)).length : Int) ∧ wr = w) (fun _ v _ => (xk t).length - (intOf v).toNat)
  case atStart => exact ⟨0, Nat.zero_le _, rfl, rfl, rfl⟩
  case round =>
    obtain ⟨j, hj, rfl, rfl, rfl⟩ := hrel
    by_cases hlt : j < (xk t).length
    · have hle : (liveK ((xk t).take j)).length ≤ 10000 := Nat.le_trans (List.length_filter_le _ _) (by simp; omega)
      have hsucc := liveK_succ (xk t) j hlt
      have hr := h.rows.row t
      rw [hv] at hr
      rcases hr with ⟨_, h0⟩ | ⟨g, cap', sz, c, hv', k1, k2, k3, k4, k5⟩
      · rw [h0] at hlt
        simp at hlt
      simp at hv'
      obtain ⟨rfl, rfl⟩ := hv'
      have a5 := (k5 j hlt).2.2.2.2.2
      have g5 : wr.cell? ⟨g, j * 6 + 5, none⟩ = some (.int .u8 (((xk t).getD j 0 : Nat) : Int)) := (k3.cell (by omega)).trans (by rw [a5])
      have hjI : (j : Int) < ((xk t).length : Int) := by omega
      generalize hu : (xk t).getD j 0 = u at g5 hsucc
      by_cases h2 : u = 2
      · subst h2
        go_wp2
        go_roundw
        case rel => exact ⟨j + 1, by omega, by go_num, by rw [hsucc]; simp, trivial⟩
        case measure => simp [intOf]; omega
      · have h2I : ((u : Int) == 2) = false := by
          simp only [beq_eq_false_iff_ne]
          omega
        have hl2 : ((liveK ((xk t).take (j + 1))).length : Int) = ((liveK ((xk t).take j)).length : Int) + 1 := by rw [hsucc]; simp [h2]
        generalize (liveK ((xk t).take j)).length = n at hle hl2 ⊢
        go_wp2
        go_roundw
        case rel => exact ⟨j + 1, by omega, by go_num, by rw [hl2], trivial⟩
        case measure => simp [intOf]; omega
    · have : j = (xk t).length := by omega
      subst this
      go_wp2
      go_ret
      exact ⟨by simp, rfl⟩

#print axioms live_any
end Go.Proofs.Ybulkbzhm
