/-
  masks.
-/
import Derived.Test.YbulkbzhmInv
import Derived.Laws.ResultCell
namespace Go.Proofs.Ybulkbzhm
set_option linter.unusedSectionVars false
variable [Base]
open Go.RowKit Go.Maps
open Go.WideShapes (add_plain)

/-- Does u stand among the first i holds of l? -/
def hasB (s : St) (l i u : Nat) : Bool := (List.range i).any fun j => s.th (l, j) == u

theorem hasB_succ (s : St) (l i u : Nat) : hasB s l (i + 1) u = (hasB s l i u || s.th (l, i) == u) := by
  simp [hasB, List.range_succ, List.any_append]

theorem hasB_iff (s : St) (l i u : Nat) : hasB s l i u = true ↔ ∃ j, j < i ∧ s.th (l, j) = u := by
  simp [hasB]

def mskB (a b c : Bool) : Nat := (if a then 1 else 0) + (if b then 2 else 0) + (if c then 4 else 0)

/-- The mask of a lock's first i holds. -/
def msk (s : St) (l i : Nat) : Nat := mskB (hasB s l i 0) (hasB s l i 1) (hasB s l i 2)

def bitOf (u : Nat) : Nat := if u = 0 then 1 else if u = 1 then 2 else 4

theorem msk_le (s : St) (l i : Nat) : msk s l i ≤ 7 := by
  unfold msk mskB
  split <;> split <;> split <;> omega

theorem mskB_and (a b c : Bool) (u : Nat) (hu : u ≤ 2) : bits .and .u8 ((mskB a b c : Nat) : Int) ((bitOf u : Nat) : Int) = if (if u = 0 then a else if u = 1 then b else c) = true then ((bitOf u : Nat) : Int) else 0 := by
  rcases (by omega : u = 0 ∨ u = 1 ∨ u = 2) with rfl | rfl | rfl <;> cases a <;> cases b <;> cases c <;> decide

theorem mskB_or (a b c : Bool) (u : Nat) (hu : u ≤ 2) : bits .or .u8 ((mskB a b c : Nat) : Int) ((bitOf u : Nat) : Int) = ((mskB (a || 0 == u) (b || 1 == u) (c || 2 == u) : Nat) : Int) := by
  rcases (by omega : u = 0 ∨ u = 1 ∨ u = 2) with rfl | rfl | rfl <;> cases a <;> cases b <;> cases c <;> decide

theorem mskB_andNot (a b c : Bool) (u : Nat) (hu : u ≤ 2) : bits .andNot .u8 ((mskB a b c : Nat) : Int) ((bitOf u : Nat) : Int) = ((mskB (a && !(0 == u)) (b && !(1 == u)) (c && !(2 == u)) : Nat) : Int) := by
  rcases (by omega : u = 0 ∨ u = 1 ∨ u = 2) with rfl | rfl | rfl <;> cases a <;> cases b <;> cases c <;> decide

theorem pick3 (f : Nat → Bool) (u : Nat) (hu : u ≤ 2) : (if u = 0 then f 0 else if u = 1 then f 1 else f 2) = f u := by
  rcases (by omega : u = 0 ∨ u = 1 ∨ u = 2) with rfl | rfl | rfl <;> rfl

theorem msk_and (s : St) (l i u : Nat) (hu : u ≤ 2) : bits .and .u8 ((msk s l i : Nat) : Int) ((bitOf u : Nat) : Int) = if hasB s l i u = true then ((bitOf u : Nat) : Int) else 0 := by
  unfold msk
  rw [mskB_and _ _ _ u hu, pick3 (hasB s l i) u hu]

theorem msk_or (s : St) (l i : Nat) (hu : s.th (l, i) ≤ 2) : bits .or .u8 ((msk s l i : Nat) : Int) ((bitOf (s.th (l, i)) : Nat) : Int) = ((msk s l (i + 1) : Nat) : Int) := by
  unfold msk
  rw [mskB_or _ _ _ _ hu, hasB_succ, hasB_succ, hasB_succ]
  have c : ∀ a b : Nat, (a == b) = (b == a) := fun a b => by
    by_cases h : a = b
    · rw [h]
    · rw [beq_false_of_ne h, beq_false_of_ne (Ne.symm h)]
  rw [c 0, c 1, c 2]

theorem shl_u8 (u : Nat) (hu : u ≤ 2) : (2 : Int) ^ u % 256 = ((bitOf u : Nat) : Int) := by
  rcases (by omega : u = 0 ∨ u = 1 ∨ u = 2) with rfl | rfl | rfl <;> rfl

/-- What masks answers. -/
def masksV (s : St) : Value := .agg #[.int .u8 (msk s 0 (s.hn 0) : Int), .int .u8 (msk s 1 (s.hn 1) : Int), .int .u8 (msk s 2 (s.hn 2) : Int)]

attribute [local go_sem] Oper.semAt_some

/-- The cells of the mask in the making: the locks below a are done, of lock a the first i holds. -/
def mcell (s : St) (a i j : Nat) : Value := .int .u8 (msk s j (if j < a then s.hn j else if j = a then i else 0) : Int)

theorem mcell_next (s : St) (a : Nat) : mcell s a (s.hn a) = mcell s (a + 1) 0 := by
  funext j
  unfold mcell
  by_cases h1 : j < a
  · rw [if_pos h1, if_pos (by omega)]
  · by_cases h2 : j = a
    · subst h2
      rw [if_neg h1, if_pos rfl, if_pos (by omega)]
    · rw [if_neg h1, if_neg h2, if_neg (by omega)]
      by_cases h3 : j = a + 1
      · rw [if_pos h3]
      · rw [if_neg h3]

theorem mcell_set (s : St) (a i : Nat) : (fun j => if j = a then Value.int .u8 (msk s a (i + 1) : Int) else mcell s a i j) = mcell s a (i + 1) := by
  funext j
  unfold mcell
  by_cases h2 : j = a
  · subst h2
    rw [if_pos rfl, if_neg (by omega), if_pos rfl]
  · rw [if_neg h2, if_neg h2, if_neg h2]

set_option maxRecDepth 100000 in
set_option maxHeartbeats 1000000 in
theorem masks_rep {w : World} {s : St} {N : Nat} (h : Rep w s) (hI : Inv N s) :
    Calls Yba.prog 5 #[.pointer (some ⟨s.D, 0, none⟩)] w fun e w' => ∃ LS, e = .returned (.tuple #[masksV s, .bool true]) ∧ Rep w' { s with L := some LS } ∧ (∀ x, s.L = some x → x = LS) ∧ Ch El w w' := by
  have hA := h.alloc (.cells #[.int .u8 0, .int .u8 0, .int .u8 0] 26)
  have cA : Ch El w (w.alloc (.cells #[.int .u8 0, .int .u8 0, .int .u8 0] 26)) := (Ch.refl _ w).alloc _
  have bA : Blk (w.alloc (.cells #[.int .u8 0, .int .u8 0, .int .u8 0] 26)) w.heap.size 26 3 (mcell s 0 0) := Blk.new w _ 26 h.base rfl (fun j hj => by
    rcases (by omega : j = 0 ∨ j = 1 ∨ j = 2) with rfl | rfl | rfl <;> rfl)
  go_enter Yba.func5, Yba.ntmps5
  go_wp2_with fail
  generalize w.alloc (.cells #[.int .u8 0, .int .u8 0, .int .u8 0] 26) = w0 at hA cA bA ⊢
  obtain ⟨M, hM0⟩ : ∃ M, M = w.heap.size := ⟨_, rfl⟩
  have HM : Hid (M = w.heap.size) := hM0
  rw [← hM0] at bA ⊢
  clear hM0
  go_loopg [4] 3 (fun gk v wr => ∃ (a : Nat) (L' : Option Nat), gk + a = 3 ∧ v = .int .i64 (a : Int) ∧ Rep wr { s with L := L' } ∧ (∀ x, s.L = some x → L' = some x) ∧ (a ≠ 0 → ∃ LS, L' = some LS) ∧ Ch El w wr ∧ Blk wr M 26 3 (mcell s a 0))
  case atStart => exact ⟨0, s.L, rfl, rfl, hA, fun _ h => h, fun h => absurd rfl h, cA, bA⟩
  case round =>
    clear hA cA bA
    obtain ⟨a, L', hga, rfl, hR, hLx, hLm, hC, bM⟩ := hrel
    have HLX : Hid (∀ x, s.L = some x → L' = some x) := hLx
    have HLM : Hid (a ≠ 0 → ∃ LS, L' = some LS) := hLm
    clear hLx hLm
    by_cases ha : a < 3
    · have haI : (a : Int) < 3 := by omega
      have hl : a ≤ 2 := by omega
      have cl := get19_rep hR a hl
      go_wp2_with fail
      refine cl.mono ?_
      rintro e w1 ⟨LS, rfl, hLy, hR1, hC1⟩
      have HLY : Hid (∀ x, s.L = some x → x = LS) := fun x hx => hLy x (HLX.out x hx)
      have c1 : Ch El w w1 := hC.trans (hC1.mono fun e he => he)
      have b1 := hC1.blk bM (by decide)
      clear cl hR hC bM hLy HLX HLM hC1
      obtain ⟨lc, b0, q1, q2, z1⟩ := hR1.ld (LS := LS) rfl hl
      obtain ⟨⟨ah, hhv⟩, hnc, hcm⟩ := h.holds.val a
      have hmI : (s.hn a : Int) ≤ 9223372036854775807 := by have := maxLen_int; omega
      have q1' : w1.cell? ⟨LS, a * 4, none⟩ = some (.slice ah (s.hn a) (s.hc a)) := by rw [q1]; exact congrArg some hhv
      have HHV : Hid (s.hv a = .slice ah (s.hn a) (s.hc a)) := hhv
      clear q1 q2 hhv hnc hcm
      go_wp2_with fail
      go_loopg [23] (s.hn a) (fun g2 v wr => ∃ i : Nat, g2 + i = s.hn a ∧ v = .int .i64 (i : Int) ∧ Rep wr { s with L := some LS } ∧ Ch El w wr ∧ Blk wr M 26 3 (mcell s a i))
      case atStart => exact ⟨0, by omega, rfl, hR1, c1, b1⟩
      case round =>
        clear hR1 c1 b1 q1' b0 z1
        obtain ⟨i, hgi, rfl, hR, hC, bM⟩ := hrel
        by_cases hi : i < s.hn a
        · have hiI : (i : Int) < (s.hn a : Int) := by omega
          obtain ⟨g, c, g0, g1, g2, g3, g4, g5, g6⟩ := hR.holds.at (l := a) (k := i) (by show i < s.hc a; exact Nat.lt_of_lt_of_le hi (hR.holds.val a).2.1)
          simp only at g0 g1 g2
          rw [HHV.out] at g0
          simp at g0
          subst g0
          have hu := hI.thr a i hl hi
          obtain ⟨u, hu0⟩ : ∃ u, u = s.th (a, i) := ⟨_, rfl⟩
          rw [← hu0] at g2 hu
          have hno : hasB s a i u = false := by
            rw [Bool.eq_false_iff]
            intro hh
            obtain ⟨j, hj, hj2⟩ := (hasB_iff s a i u).1 hh
            have := hI.thd a j i hl (by omega) hi (by rw [hj2, hu0])
            omega
          have hcell := bM.cell (i := a) (by omega)
          have em : mcell s a i a = .int .u8 (msk s a i : Int) := by
            unfold mcell
            rw [if_neg (by omega), if_pos rfl]
          rw [em] at hcell
          have zM := bM.frozen
          have hand := msk_and s a i u hu
          rw [hno] at hand
          simp only [Bool.false_eq_true, if_false] at hand
          have hor := msk_or s a i (by rw [← hu0]; exact hu)
          rw [← hu0] at hor
          have hsh := shl_u8 u hu
          have huI : (u : Int) ≤ 2 := by omega
          have hR2 := hR.ch (E := fun e => e = 26) ((Ch.refl (fun e => e = 26) wr).setCell bM rfl a (.int .u8 (msk s a (i + 1) : Int))) (fun e he => by subst he; decide)
          have hC2 : Ch El w _ := hC.setNew (Nat.le_of_eq HM.out.symm) a (.int .u8 (msk s a (i + 1) : Int))
          have bM2 := bM.set a (.int .u8 (msk s a (i + 1) : Int))
          rw [mcell_set] at bM2
          clear em hno g3 g4 g5 hu0 hR
          go_wp2_with fail
          go_roundg (gk - 1)
          case measure => omega
          case rel => exact ⟨i + 1, by omega, by go_num, hR2, hC2, bM2⟩
        · have : i = s.hn a := by omega
          subst this
          go_wp2_with fail
          go_roundg (2 - a)
          case measure => omega
          case rel => exact ⟨a + 1, some LS, by omega, by go_num, hR, fun x hx => by rw [HLY.out x hx], fun _ => ⟨LS, rfl⟩, hC, by rw [← mcell_next]; exact bM⟩
    · have : a = 3 := by omega
      subst this
      obtain ⟨LS, rfl⟩ := HLM.out (by omega)
      have c0 := bM.cell (i := 0) (by omega)
      have c1 := bM.cell (i := 1) (by omega)
      have c2 := bM.cell (i := 2) (by omega)
      have zM := bM.frozen
      have e0 : mcell s 3 0 0 = .int .u8 (msk s 0 (s.hn 0) : Int) := rfl
      have e1 : mcell s 3 0 1 = .int .u8 (msk s 1 (s.hn 1) : Int) := rfl
      have e2 : mcell s 3 0 2 = .int .u8 (msk s 2 (s.hn 2) : Int) := rfl
      rw [e0] at c0
      rw [e1] at c1
      rw [e2] at c2
      have bW := ((bM.set 0 (.int .u8 (msk s 0 (s.hn 0) : Int))).set 1 (.int .u8 (msk s 1 (s.hn 1) : Int))).set 2 (.int .u8 (msk s 2 (s.hn 2) : Int))
      have hW1 := (Ch.refl (fun e => e = 26) wr).setCell bM rfl 0 (.int .u8 (msk s 0 (s.hn 0) : Int))
      have hW2 := hW1.setCell (bM.set 0 _) rfl 1 (.int .u8 (msk s 1 (s.hn 1) : Int))
      have hW3 := hW2.setCell ((bM.set 0 _).set 1 _) rfl 2 (.int .u8 (msk s 2 (s.hn 2) : Int))
      have hRW := hR.ch (E := fun e => e = 26) hW3 (fun e he => by subst he; decide)
      have hCW : Ch El w _ := ((hC.setNew (Nat.le_of_eq HM.out.symm) 0 (.int .u8 (msk s 0 (s.hn 0) : Int))).setNew (Nat.le_of_eq HM.out.symm) 1 (.int .u8 (msk s 1 (s.hn 1) : Int))).setNew (Nat.le_of_eq HM.out.symm) 2 (.int .u8 (msk s 2 (s.hn 2) : Int))
      clear e0 e1 e2 hW1 hW2 hW3 hR hC
      go_wp2
      generalize ((wr.setCell ⟨M, 0, none⟩ (.int .u8 (msk s 0 (s.hn 0) : Int))).setCell ⟨M, 1, none⟩ (.int .u8 (msk s 1 (s.hn 1) : Int))).setCell ⟨M, 2, none⟩ (.int .u8 (msk s 2 (s.hn 2) : Int)) = W at bW hRW hCW ⊢
      have d0 : W.cell? ⟨M, 0, none⟩ = some (.int .u8 (msk s 0 (s.hn 0) : Int)) := bW.cell (by omega)
      have d1 : W.cell? ⟨M, 1, none⟩ = some (.int .u8 (msk s 1 (s.hn 1) : Int)) := bW.cell (by omega)
      have d2 : W.cell? ⟨M, 2, none⟩ = some (.int .u8 (msk s 2 (s.hn 2) : Int)) := bW.cell (by omega)
      clear bM c0 c1 c2 zM bW
      refine bodyPost_ret (v := .tuple #[masksV s, .bool true]) ?_ rfl ⟨LS, rfl, hRW, fun x hx => by have := HLX.out x hx; simpa using this.symm, hCW⟩
      rw [results_cell_tmp Yba.results5]
      simp [go_sem, d0, d1, d2, masksV]

#print axioms masks_rep
end Go.Proofs.Ybulkbzhm
