/-
  slices.Backward's iterator.
-/
import Derived.Test.YbulkbzhmRange
import Derived.Test.YbulkbzhmGrow
namespace Go.Proofs.Ybulkbzhm
set_option linter.unusedSectionVars false
variable [Base]
open Go.RowKit

attribute [local go_sem] Oper.semAt_some

set_option maxRecDepth 100000 in
set_option maxHeartbeats 1000000 in
theorem backward_it (Bx : Nat) (L : List Nat) (a : Option Addr) (cap : Nat) (hL : L.length ≤ 10000) (l : Nat) (J : Nat → World → Prop) (W : World)
    (hr : ∀ k W, J k W → W.cell? ⟨Bx, 0, none⟩ = some (.slice a L.length cap) ∧ ∀ i, i < L.length → ∃ g, a = some ⟨g, 0, none⟩ ∧ W.cell? ⟨g, i, none⟩ = some (.int .i32 ((L.getD i 0 : Nat) : Int)))
    (hY : ∀ k W, J k W → k < L.length → YieldAt Fence.wide 0 Yba.prog l #[.int .i64 ((L.length - 1 - k : Nat) : Int), .int .i32 ((L.getD (L.length - 1 - k) 0 : Nat) : Int)] W fun e W' => e = .returned (.bool true) ∧ J (k + 1) W')
    (h0 : J 0 W) : CallsIn Fence.wide 1 Yba.prog 34 (#[.func (.yield l) #[] #[]] ++ #[.pointer (some ⟨Bx, 0, none⟩)]) W fun e W' => (∃ v, e = .returned v) ∧ J L.length W' := by
  obtain ⟨b0, -⟩ := hr 0 W h0
  have hLI : (L.length : Int) ≤ 10000 := by omega
  refine callsIn_of_wp Yba.func34 rfl trivial ?_ rfl
  simp only [Yba.ntmps34, List.size_toArray, List.length_cons, List.length_nil, Nat.reduceAdd, Nat.reduceSub, Array.replicate_succ, Array.replicate_zero, List.push_toArray, List.append_toArray, List.nil_append, List.cons_append]
  gi_wp2
  gi_loopw [3] (fun v wr => ∃ k : Nat, k ≤ L.length ∧ J k wr ∧ ((k = L.length ∧ v = .int .i64 (-1)) ∨ ∃ i : Nat, i + k + 1 = L.length ∧ v = .int .i64 (i : Int))) (fun v _ => (intOf v + 1).toNat)
  case atStart =>
    by_cases h00 : L.length = 0
    · exact ⟨0, Nat.zero_le _, h0, .inl ⟨h00.symm, by rw [h00]; rfl⟩⟩
    · exact ⟨0, Nat.zero_le _, h0, .inr ⟨L.length - 1, by omega, by rw [show ((L.length - 1 : Nat) : Int) = (L.length : Int) - 1 by omega]⟩⟩
  case round =>
    obtain ⟨k, hk, hJ, ⟨rfl, rfl⟩ | ⟨i, hi, rfl⟩⟩ := hrel
    · gi_wp2
      go_end0
      exact ⟨⟨_, rfl⟩, hJ⟩
    · obtain ⟨b1, hc⟩ := hr k wr hJ
      obtain ⟨g, rfl, hcell⟩ := hc i (by omega)
      obtain ⟨fn, tmps, assign, body, hy, hR⟩ := hY k wr hJ (by omega)
      have e : L.length - 1 - k = i := by omega
      rw [e] at hy
      generalize L.getD i 0 = x at hy hcell
      have hiI : (i : Int) < (L.length : Int) := by omega
      clear hc hr hY e
      gi_wp2
      refine hR.mono ?_
      rintro e W3 ⟨rfl, hJ3⟩
      gi_wp2
      refine ⟨⟨k + 1, by omega, hJ3, ?_⟩, by simp [intOf]⟩
      by_cases hi0 : i = 0
      · subst hi0
        exact .inl ⟨by omega, rfl⟩
      · exact .inr ⟨i - 1, by omega, by rw [show ((i - 1 : Nat) : Int) = (i : Int) - 1 by omega]⟩

#print axioms backward_it
end Go.Proofs.Ybulkbzhm
