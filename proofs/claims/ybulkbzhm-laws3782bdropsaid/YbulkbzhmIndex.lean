/-
  slices.IndexFunc over the holds, with dropNested's closure.
-/
import Derived.Test.YbulkbzhmCont
namespace Go.Proofs.Ybulkbzhm
set_option linter.unusedSectionVars false
variable [Base]
open Go.RowKit Go.Maps
open Go.WideShapes (add_plain)

set_option maxRecDepth 100000 in
theorem closure22 (B t th pl n1 c1 n2 c2 : Nat) (a1 a2 : Option Addr) (w : World) (hB : w.cell? ⟨B, 0, none⟩ = some (.int .i64 (t : Int))) (lB : B < w.heap.size) :
    Calls Yba.prog 22 #[.agg #[.int .i64 (th : Int), .int .i64 (pl : Int), .slice a1 n1 c1, .slice a2 n2 c2], .pointer (some ⟨B, 0, none⟩)] w fun e w' => e = .returned (.bool (decide (th = t))) ∧ w' = w.alloc (.cells #[.int .i64 (th : Int), .int .i64 (pl : Int), .slice a1 n1 c1, .slice a2 n2 c2] 66) := by
  go_enter Yba.func22, Yba.ntmps22
  go_wp2
  go_ret
  refine ⟨?_, rfl⟩
  by_cases h : th = t
  · simp [h]
  · have : ((th : Int) == (t : Int)) = false := by
      simp only [beq_eq_false_iff_ne]
      omega
    simp [h, this]

set_option maxRecDepth 100000 in
set_option maxHeartbeats 1000000 in
theorem indexFunc_rep {w : World} {s : St} (h : Rep w s) (l t B : Nat) (hn : s.hn l ≤ 10000) (hB : Blk w B 3 1 (fun _ => .int .i64 (t : Int))) (a : Option Addr) (hv : s.hv l = .slice a (s.hn l) (s.hc l)) :
    Calls Yba.prog 21 #[.slice a (s.hn l) (s.hc l), .func (.func 22) #[] #[.pointer (some ⟨B, 0, none⟩)]] w fun e w' => Rep w' s ∧ Ch (fun _ => False) w w' ∧ ((e = .returned (.int .i64 (-1)) ∧ ∀ k, k < s.hn l → s.th (l, k) ≠ t) ∨ ∃ k, k < s.hn l ∧ s.th (l, k) = t ∧ e = .returned (.int .i64 (k : Int))) := by
  have hnI : (s.hn l : Int) ≤ 10000 := by omega
  have HV : Hid (s.hv l = .slice a (s.hn l) (s.hc l)) := hv
  clear hv
  go_enter Yba.func21, Yba.ntmps21
  go_wp2_with fail
  go_loopg [8] (s.hn l) (fun gk v wr => ∃ i : Nat, gk + i = s.hn l ∧ v = .int .i64 (i : Int) ∧ Rep wr s ∧ Ch (fun _ => False) w wr ∧ ∀ j, j < i → s.th (l, j) ≠ t)
  case atStart => exact ⟨0, by omega, rfl, h, Ch.refl _ w, fun j hj => by omega⟩
  case round =>
    obtain ⟨i, hk, rfl, hR, hC, hall⟩ := hrel
    have HALL : Hid (∀ j, j < i → s.th (l, j) ≠ t) := hall
    clear hall
    by_cases hi : i < s.hn l
    · have hkc : i < s.hc l := Nat.lt_of_lt_of_le hi (hR.holds.val l).2.1
      obtain ⟨g, c, g0, g1, g2, g3, g4, g5, g6⟩ := hR.holds.at (l := l) (k := i) hkc
      rw [HV.out] at g0
      simp at g0
      subst g0
      obtain ⟨as1, cs1, hsv⟩ := (hR.slots.row (l, i)).val
      obtain ⟨ap1, cp1, hpv⟩ := (hR.pends.row (l, i)).val
      rw [hsv] at g4
      rw [hpv] at g5
      have bB := hC.blk hB id
      have qB := bB.cell (i := 0) (by omega)
      have cl := closure22 B t (s.th (l, i)) (s.pl (l, i)) (s.sl (l, i)).length cs1 (s.pd (l, i)).length cp1 as1 ap1 wr qB bB.lt
      have hiI : (i : Int) < (s.hn l : Int) := by omega
      clear hsv hpv
      go_wp2_with fail
      refine cl.mono ?_
      rintro e w2 ⟨rfl, rfl⟩
      have hR2 := hR.alloc (.cells #[.int .i64 (s.th (l, i) : Int), .int .i64 (s.pl (l, i) : Int), .slice as1 (s.sl (l, i)).length cs1, .slice ap1 (s.pd (l, i)).length cp1] 66)
      have hC2 := hC.alloc (.cells #[.int .i64 (s.th (l, i) : Int), .int .i64 (s.pl (l, i) : Int), .slice as1 (s.sl (l, i)).length cs1, .slice ap1 (s.pd (l, i)).length cp1] 66)
      generalize wr.alloc (.cells #[.int .i64 (s.th (l, i) : Int), .int .i64 (s.pl (l, i) : Int), .slice as1 (s.sl (l, i)).length cs1, .slice ap1 (s.pd (l, i)).length cp1] 66) = w3 at hR2 hC2 ⊢
      by_cases hth : s.th (l, i) = t
      · have hd : decide (s.th (l, i) = t) = true := by simp [hth]
        rw [hd]
        have HT : Hid (s.th (l, i) = t) := hth
        clear hth hd
        go_wp2
        go_ret
        exact ⟨hR2, hC2, .inr ⟨i, hi, HT.out, rfl⟩⟩
      · have hd : decide (s.th (l, i) = t) = false := by simp [hth]
        rw [hd]
        have HT : Hid (¬ s.th (l, i) = t) := hth
        clear hth hd
        go_wp2_with fail
        go_roundg (gk - 1)
        case measure => omega
        case rel =>
          refine ⟨i + 1, by omega, by go_num, hR2, hC2, fun j hj => ?_⟩
          by_cases e : j = i
          · rw [e]; exact HT.out
          · exact HALL.out j (by omega)
    · have hiD : decide ((i : Int) < (s.hn l : Int)) = false := by simp; omega
      have hie : i = s.hn l := by omega
      have HE : Hid (i = s.hn l) := hie
      clear hie
      go_wp2
      go_ret
      refine ⟨hR, hC, .inl ⟨rfl, ?_⟩⟩
      rw [← HE.out]
      exact HALL.out

#print axioms indexFunc_rep
end Go.Proofs.Ybulkbzhm
