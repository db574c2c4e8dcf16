/-
  open(cycle): the first commit of cycle 1; a later one.
-/
import Derived.Test.YbulkbzccSWrite2
namespace Go.Proofs.Ybulkbzcc
open Go.RowKit
open Go.WideShapes (add_plain)

set_option maxRecDepth 100000 in
theorem open_same (L : Nat) (w : World) (h8 : w.cell? ⟨L, 8, none⟩ = some (.int .i64 1)) :
    Calls Yba.prog 26 #[.pointer (some ⟨L, 0, none⟩), .int .i64 1] w fun e w' => e = .returned (.tuple #[]) ∧ w' = w := by
  go_enter Yba.func26, Yba.ntmps26
  go_wp2
  go_end0
  exact ⟨rfl, rfl⟩

set_option maxRecDepth 100000 in
set_option maxHeartbeats 1000000 in
theorem open_first (L : Nat) (w : World) (h8 : w.cell? ⟨L, 8, none⟩ = some (.int .i64 0)) (h9 : w.cell? ⟨L, 9, none⟩ = some (.slice none 0 0)) (h10 : w.cell? ⟨L, 10, none⟩ = some (.slice none 0 0)) (h11 : w.cell? ⟨L, 11, none⟩ = some (.slice none 0 0)) (h14 : w.cell? ⟨L, 14, none⟩ = some (.slice none 0 0))
    (zL : ∀ j, w.frozen? ⟨L, j, none⟩ = false) :
    Calls Yba.prog 26 #[.pointer (some ⟨L, 0, none⟩), .int .i64 1] w fun e w' => e = .returned (.tuple #[]) ∧ w' = (((((w.setCell ⟨L, 8, none⟩ (.int .i64 1)).setCell ⟨L, 9, none⟩ (.slice none 0 0)).setCell ⟨L, 10, none⟩ (.slice none 0 0)).setCell ⟨L, 11, none⟩ (.slice none 0 0)).setCell ⟨L, 14, none⟩ (.slice none 0 0)).drew := by
  go_enter Yba.func26, Yba.ntmps26
  go_wp2
  go_region
  all_goals refine ?main
  go_wp2
  go_loopw [54] (fun i wr => i = .int .i64 0 ∧ wr = ((((w.setCell ⟨L, 8, none⟩ (.int .i64 1)).setCell ⟨L, 9, none⟩ (.slice none 0 0)).setCell ⟨L, 10, none⟩ (.slice none 0 0)).setCell ⟨L, 11, none⟩ (.slice none 0 0)).drew) (fun _ _ => 0)
  case atStart => exact ⟨rfl, rfl⟩
  case round =>
    obtain ⟨rfl, rfl⟩ := hrel
    go_wp2
    go_end0
    exact ⟨rfl, rfl⟩

/-- A log's own state, ahead of or within cycle 1. -/
def CycOK (c : Nat → Value) : Prop := c 11 = .slice none 0 0 ∧ (c 8 = .int .i64 1 ∨ (c 8 = .int .i64 0 ∧ c 9 = .slice none 0 0 ∧ c 10 = .slice none 0 0 ∧ c 14 = .slice none 0 0))

theorem open_any (X : Nat → Prop) (L : Nat) (c : Nat → Value) (w : World) (hb : Blk w L 75 15 c) (nX : ¬ X L) (hc : CycOK c) :
    Calls Yba.prog 26 #[.pointer (some ⟨L, 0, none⟩), .int .i64 1] w fun e w' => e = .returned (.tuple #[]) ∧ Blk w' L 75 15 (fun j => if j = 8 then .int .i64 1 else c j) ∧ Chg X (fun e => e = 75) w w' := by
  obtain ⟨e11, e8 | ⟨e8, e9, e10, e14⟩⟩ := hc
  · refine (open_same L w ((hb.cell (i := 8) (by omega)).trans (by rw [e8]))).mono ?_
    rintro e w' ⟨rfl, rfl⟩
    exact ⟨rfl, hb.congr fun i _ => by by_cases h : i = 8 <;> simp [h, e8], Chg.refl _ _ _⟩
  · refine (open_first L w ((hb.cell (i := 8) (by omega)).trans (by rw [e8])) ((hb.cell (i := 9) (by omega)).trans (by rw [e9])) ((hb.cell (i := 10) (by omega)).trans (by rw [e10])) ((hb.cell (i := 11) (by omega)).trans (by rw [e11])) ((hb.cell (i := 14) (by omega)).trans (by rw [e14])) hb.frozen).mono ?_
    rintro e w' ⟨rfl, rfl⟩
    have b1 := hb.set 8 (.int .i64 1)
    have b2 := b1.set 9 (.slice none 0 0)
    have b3 := b2.set 10 (.slice none 0 0)
    have b4 := b3.set 11 (.slice none 0 0)
    have b5 := b4.set 14 (.slice none 0 0)
    have q1 := (Chg.refl X (fun e => e = 75) w).setCell hb nX rfl 8 (.int .i64 1)
    have q2 := q1.setCell b1 nX rfl 9 (.slice none 0 0)
    have q3 := q2.setCell b2 nX rfl 10 (.slice none 0 0)
    have q4 := q3.setCell b3 nX rfl 11 (.slice none 0 0)
    have q5 := q4.setCell b4 nX rfl 14 (.slice none 0 0)
    refine ⟨rfl, b5.drew.congr fun i _ => ?_, q5.drew⟩
    by_cases h8 : i = 8
    · simp [h8]
    · by_cases h9 : i = 9
      · simp [h9, e9]
      · by_cases h10 : i = 10
        · simp [h10, e10]
        · by_cases h11 : i = 11
          · simp [h11, e11]
          · by_cases h14 : i = 14
            · simp [h14, e14]
            · simp [h8, h9, h10, h11, h14]

#print axioms open_any
end Go.Proofs.Ybulkbzcc
