/-
  node(k, sk): it reads; some number comes back.
-/
import Derived.Test.YbulkbzhmLeaf
namespace Go.Proofs.Ybulkbzhm
set_option linter.unusedSectionVars false
variable [Base]
open Go.RowKit
open Go.WideShapes (add_plain)

/-- The cells of an array of sections: a kind each, a number each as its since. -/
def SecCells (w : World) (g n : Nat) : Prop := ∀ j, j < n → (∃ kd : Int, w.cell? ⟨g, j * 6 + 5, none⟩ = some (.int .u8 kd)) ∧ ∃ s : Int, w.cell? ⟨g, j * 6, none⟩ = some (.int .u64 s)

set_option maxRecDepth 100000 in
set_option maxHeartbeats 1000000 in
theorem node_low (P o lg lv lc k sk : Nat) (a : Int) (w : World) (hk : k < lv) (hsk : sk ≤ 1) (q2 : w.cell? ⟨P, o + 2, none⟩ = some (.int .i64 (lv : Int))) (q3 : w.cell? ⟨P, o + 3 + sk, none⟩ = some (.slice (some ⟨lg, 0, none⟩) lv lc)) (q4 : w.cell? ⟨lg, k, none⟩ = some (.int .u64 a)) :
    Calls Yba.prog 41 #[.pointer (some ⟨P, o, none⟩), .int .i64 (k : Int), .int .u8 (sk : Int)] w fun e w' => e = .returned (.int .u64 a) ∧ w' = w := by
  have hkI : (k : Int) < (lv : Int) := by omega
  have hsI : (sk : Int) < 2 := by omega
  go_enter Yba.func41, Yba.ntmps41
  go_wp2
  go_ret
  exact ⟨rfl, rfl⟩

set_option maxRecDepth 100000 in
set_option maxHeartbeats 2000000 in
theorem node_high (P o g n c lv k sk : Nat) (w : World) (hk : lv ≤ k) (hk2 : k ≤ 1000000) (hn : n ≤ c) (hn2 : n ≤ 1000000) (q2 : w.cell? ⟨P, o + 2, none⟩ = some (.int .i64 (lv : Int))) (q0 : w.cell? ⟨P, o, none⟩ = some (.slice (some ⟨g, 0, none⟩) n c)) (hs : SecCells w g n) :
    Calls Yba.prog 41 #[.pointer (some ⟨P, o, none⟩), .int .i64 (k : Int), .int .u8 (sk : Int)] w fun e w' => (∃ a : Int, e = .returned (.int .u64 a)) ∧ ∃ m, w' = w.drewN m := by
  have hkI : ¬ (k : Int) < (lv : Int) := by omega
  have hd : decide ((k : Int) < (lv : Int)) = false := by simp; omega
  go_enter Yba.func41, Yba.ntmps41
  go_wp2_with fail
  go_region
  obtain ⟨lo, hlo, hlo2⟩ : ∃ lo : Nat, (if (n : Int) < ((k : Int) - (lv : Int)) * 8 then (n : Int) else ((k : Int) - (lv : Int)) * 8) = (lo : Int) ∧ lo ≤ n := by
    by_cases h : (n : Int) < ((k : Int) - (lv : Int)) * 8
    · exact ⟨n, by simp [h], Nat.le_refl _⟩
    · exact ⟨(k - lv) * 8, by simp only [h, if_false]; omega, by omega⟩
  obtain ⟨hi, hhi, hhi2, hhi3⟩ : ∃ hi : Nat, (if (n : Int) < (lo : Int) + 8 then (n : Int) else (lo : Int) + 8) = (hi : Int) ∧ lo ≤ hi ∧ hi ≤ n := by
    by_cases h : (n : Int) < (lo : Int) + 8
    · exact ⟨n, by simp [h], by omega, Nat.le_refl _⟩
    · exact ⟨lo + 8, by simp only [h, if_false]; omega, by omega, by omega⟩
  simp only [hlo]
  clear hlo hd
  go_wp2_with fail
  go_region
  have hsa : lo < hi → (if c = lo then (some ⟨g, 0, none⟩ : Option Addr) else some ⟨g, lo * 6, none⟩) = some ⟨g, lo * 6, none⟩ := fun h => by
    have : ¬ c = lo := by omega
    simp [this]
  generalize (if c = lo then (some ⟨g, 0, none⟩ : Option Addr) else some ⟨g, lo * 6, none⟩) = sa at hsa ⊢
  go_wp2_with fail
  go_loopw [9, 55] (fun v i wr => ∃ (j : Nat) (a : Int), j ≤ hi - lo ∧ i = .int .i64 j ∧ v = .int .u64 a ∧ wr = w.drew.drew) (fun _ i _ => hi - lo - (intOf i).toNat)
  case atStart => exact ⟨0, _, Nat.zero_le _, rfl, rfl, rfl⟩
  case round =>
    obtain ⟨j, a, hj, rfl, rfl, rfl⟩ := hrel
    by_cases hlt : j < hi - lo
    · obtain ⟨⟨kd, k5⟩, sn, k0⟩ := hs (lo + j) (by omega)
      obtain rfl := hsa (by omega)
      have hjI : (j : Int) < ((hi - lo : Nat) : Int) := by omega
      have e5 : (lo + j) * 6 + 5 = lo * 6 + j * 6 + 5 := by omega
      have e0 : (lo + j) * 6 = lo * 6 + j * 6 := by omega
      rw [e5] at k5
      rw [e0] at k0
      go_wp2
      all_goals
        go_roundw
        case rel => exact ⟨j + 1, _, by omega, by go_num, rfl, by first | rfl | trivial⟩
        case measure => simp [intOf]; omega
    · go_wp2
      go_ret
      exact ⟨⟨_, rfl⟩, 2, rfl⟩

#print axioms node_high

end Go.Proofs.Ybulkbzhm
