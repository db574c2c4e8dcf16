/-
  threadok.
-/
import Derived.Test.YbulkbzhmCok
import Derived.Test.YbulkbzhmCompact
namespace Go.Proofs.Ybulkbzhm
set_option linter.unusedSectionVars false
variable [Base]
open Go.RowKit Go.Maps
open Go.WideShapes (add_plain)

theorem count3 (c : Nat → Nat) (n : Nat) (hd : ∀ i, i < n → c 0 = i + 1 ∨ c 1 = i + 1 ∨ c 2 = i + 1) (hb : ∀ l, l ≤ 2 → c l ≠ 0 → c l ≤ n) (hne : ∀ l l', l ≤ 2 → l' ≤ 2 → l ≠ l' → c l ≠ 0 → c l ≠ c l') :
    (if c 0 = 0 then 0 else 1) + (if c 1 = 0 then 0 else 1) + (if c 2 = 0 then 0 else 1) = n := by
  have d0 := hd 0
  have d1 := hd 1
  have d2 := hd 2
  have d3 := hd 3
  have b0 := hb 0 (by omega)
  have b1 := hb 1 (by omega)
  have b2 := hb 2 (by omega)
  have n1 := hne 0 1 (by omega) (by omega) (by omega)
  have n2 := hne 0 2 (by omega) (by omega) (by omega)
  have n3 := hne 1 2 (by omega) (by omega) (by omega)
  generalize c 0 = c0 at *
  generalize c 1 = c1 at *
  generalize c 2 = c2 at *
  by_cases h0 : c0 = 0 <;> by_cases h1 : c1 = 0 <;> by_cases h2 : c2 = 0 <;> simp only [h0, h1, h2, if_true, if_false] <;> omega

/-- How many of the first a locks t holds. -/
def tcnt (s : St) (t : Nat) : Nat → Nat
  | 0 => 0
  | a + 1 => tcnt s t a + if hasB s a (s.hn a) t = true then 1 else 0

theorem tcnt_le (s : St) (t a : Nat) : tcnt s t a ≤ a := by
  induction a with
  | zero => exact Nat.le_refl _
  | succ a ih =>
    show tcnt s t a + (if hasB s a (s.hn a) t = true then 1 else 0) ≤ a + 1
    split <;> omega

theorem Inv.tcnt {N : Nat} {s : St} (h : Inv N s) (t : Nat) (ht : t ≤ 2) : tcnt s t 3 = (s.ql t).length := by
  have hex : ∀ l, ∃ c : Nat, (c = 0 ∧ hasB s l (s.hn l) t = false) ∨ (c ≠ 0 ∧ hasB s l (s.hn l) t = true ∧ ∃ k, k < s.hn l ∧ s.th (l, k) = t ∧ c = s.pl (l, k) + 1) := fun l => by
    cases hh : hasB s l (s.hn l) t with
    | false => exact ⟨0, .inl ⟨rfl, rfl⟩⟩
    | true =>
      obtain ⟨k, hk, hth⟩ := (hasB_iff s l (s.hn l) t).1 hh
      exact ⟨s.pl (l, k) + 1, .inr ⟨by omega, rfl, k, hk, hth, rfl⟩⟩
  obtain ⟨c, hc⟩ := Classical.skolem.1 hex
  have e : ∀ l, (if hasB s l (s.hn l) t = true then 1 else 0) = if c l = 0 then 0 else 1 := fun l => by
    rcases hc l with ⟨h1, h2⟩ | ⟨h1, h2, _⟩
    · rw [h1, h2]; rfl
    · rw [if_neg h1, h2]; rfl
  show 0 + _ + _ + _ = _
  rw [e, e, e, Nat.zero_add]
  refine count3 c _ (fun i hi => ?_) (fun l hl h0 => ?_) (fun l l' hl hl' hn h0 he => ?_)
  · obtain ⟨l, k, -, hl, hk, hth, hp⟩ := h.lk t i ht hi
    have hcl : c l = i + 1 := by
      rcases hc l with ⟨_, h2⟩ | ⟨_, _, k', hk', hth', h3⟩
      · rw [(hasB_iff s l (s.hn l) t).2 ⟨k, hk, hth⟩] at h2
        simp at h2
      · have := h.thd l k k' hl hk hk' (hth.trans hth'.symm)
        subst this
        omega
    rcases (by omega : l = 0 ∨ l = 1 ∨ l = 2) with rfl | rfl | rfl <;> simp [hcl]
  · rcases hc l with ⟨h1, _⟩ | ⟨_, _, k, hk, hth, h3⟩
    · exact absurd h1 h0
    · have := (h.kl l k hl hk).1
      rw [hth] at this
      omega
  · rcases hc l with ⟨h1, _⟩ | ⟨_, _, k, hk, hth, h3⟩
    · exact absurd h1 h0
    · rcases hc l' with ⟨h1, _⟩ | ⟨_, _, k', hk', hth', h3'⟩
      · omega
      · have a1 := (h.kl l k hl hk).2
        have a2 := (h.kl l' k' hl' hk').2
        rw [hth] at a1
        rw [hth'] at a2
        have : s.pl (l, k) = s.pl (l', k') := by omega
        rw [this, a2] at a1
        exact hn a1.symm

set_option maxRecDepth 100000 in
theorem nested_made {w : World} {s : St} (h : Rep w s) {TS : Nat} (hT : s.T = some TS) (t : Nat) (ht : t ≤ 2) :
    Calls Yba.prog 9 #[.pointer (some ⟨s.D, 0, none⟩), .int .i64 (t : Int)] w fun e w' => e = .returned (.pointer (some ⟨TS, t * 8, none⟩)) ∧ ∃ m, w' = w.drewN m := by
  have cl := get20_made h hT t ht
  go_enter Yba.func9, Yba.ntmps9
  go_wp2_with fail
  refine cl.mono ?_
  rintro e w1 ⟨rfl, m, rfl⟩
  go_wp2
  go_ret
  exact ⟨rfl, m, rfl⟩

/-- A lock's mask in masksV. -/
def maskAt (s : St) (l : Nat) : Value := .int .u8 (msk s l (s.hn l) : Int)

set_option maxRecDepth 100000 in
set_option maxHeartbeats 2000000 in
theorem threadok_made {w : World} {s : St} {N : Nat} (h : Rep w s) (hI : Inv N s) (hN : N ≤ 5000) {LS TS : Nat} (hL : s.L = some LS) (hT : s.T = some TS) (t : Nat) (ht : t ≤ 2) :
    Calls Yba.prog 14 #[.pointer (some ⟨s.D, 0, none⟩), .int .i64 (t : Int), masksV s] w fun e w' => e = .returned (.bool true) ∧ ∃ m o, w' = (w.alloc o).drewN m := by
  unfold masksV
  have hA := h.alloc (.cells #[.int .u8 (msk s 0 (s.hn 0) : Int), .int .u8 (msk s 1 (s.hn 1) : Int), .int .u8 (msk s 2 (s.hn 2) : Int)] 26)
  have bA : Blk (w.alloc (.cells #[.int .u8 (msk s 0 (s.hn 0) : Int), .int .u8 (msk s 1 (s.hn 1) : Int), .int .u8 (msk s 2 (s.hn 2) : Int)] 26)) w.heap.size 26 3 (maskAt s) := Blk.new w _ 26 h.base rfl (fun j hj => by
    rcases (by omega : j = 0 ∨ j = 1 ∨ j = 2) with rfl | rfl | rfl <;> rfl)
  have cl := nested_made hA hT t ht
  go_enter Yba.func14, Yba.ntmps14
  go_wp2_with fail
  refine cl.mono ?_
  rintro e w1 ⟨rfl, m1, rfl⟩
  obtain ⟨W, hW⟩ : ∃ W, W = w.alloc (.cells #[.int .u8 (msk s 0 (s.hn 0) : Int), .int .u8 (msk s 1 (s.hn 1) : Int), .int .u8 (msk s 2 (s.hn 2) : Int)] 26) := ⟨_, rfl⟩
  rw [← hW] at hA bA ⊢
  have HW : Hid (∃ o, W = w.alloc o) := ⟨_, hW⟩
  clear hW cl
  generalize w.heap.size = M at bA ⊢
  obtain ⟨aq, cq, hqv⟩ := (hA.locks.row t).val
  obtain ⟨tc, lv, hq, -, -⟩ := hA.thrP hT
  have q5 : W.cell? ⟨TS, t * 8 + 5, none⟩ = some (.slice aq (s.ql t).length cq) := (hq.blk.cell (by omega)).trans (by rw [(hq.one t ht).c5, hqv])
  obtain ⟨ax, capx, hxv⟩ := (hq.rows.row t).val
  have q0 : W.cell? ⟨TS, t * 8, none⟩ = some (.slice ax (s.xk t).length capx) := (hq.blk.cell (by omega)).trans (by rw [(hq.one t ht).c0, hxv])
  have hz : ((s.ql t).length : Int) ≤ 5000 := by have := hI.zq t (by omega); omega
  have hzx : ((s.xk t).length : Int) ≤ 5000 := by have := hI.zx t (by omega); omega
  have HC : Hid (tcnt s t 3 = (s.ql t).length) := hI.tcnt t ht
  have HQV : Hid (s.qv t = .slice aq (s.ql t).length cq) := hqv
  have HXV : Hid (s.xv t = .slice ax (s.xk t).length capx) := hxv
  have hsh := shl_u8 t ht
  clear hqv hxv
  go_wp2_with fail
  go_loopg [8, 9] 3 (fun gk v8 v9 wr => ∃ a m : Nat, gk + a = 3 ∧ v8 = .int .i64 (tcnt s t a : Int) ∧ v9 = .int .i64 (a : Int) ∧ wr = W.drewN m)
  case atStart => exact ⟨0, m1, by omega, rfl, rfl, rfl⟩
  case round =>
    obtain ⟨a, m, hga, rfl, rfl, rfl⟩ := hrel
    by_cases ha : a < 3
    · have haI : (a : Int) < 3 := by omega
      have hc := bA.cell (i := a) (by omega)
      have hand := msk_and s a (s.hn a) t ht
      have hle : (tcnt s t a : Int) ≤ 3 := by have := tcnt_le s t a; omega
      unfold maskAt at hc
      cases hh : hasB s a (s.hn a) t with
      | false =>
        have HS : Hid (tcnt s t (a + 1) = tcnt s t a) := by show tcnt s t a + (if hasB s a (s.hn a) t = true then 1 else 0) = tcnt s t a; rw [hh]; rfl
        rw [hh] at hand
        simp only [Bool.false_eq_true, if_false] at hand
        clear hh
        go_wp2_with fail
        go_roundg (2 - a)
        case measure => omega
        case rel => exact ⟨a + 1, m, by omega, by rw [HS.out], by go_num, rfl⟩
      | true =>
        have HS : Hid (tcnt s t (a + 1) = tcnt s t a + 1) := by show tcnt s t a + (if hasB s a (s.hn a) t = true then 1 else 0) = tcnt s t a + 1; rw [hh]; rfl
        rw [hh] at hand
        simp only [if_true] at hand
        have hb0 : (((bitOf t : Nat) : Int) == 0) = false := by
          simp only [beq_eq_false_iff_ne]
          unfold bitOf
          split
          · decide
          · split <;> decide
        clear hh
        go_wp2_with fail
        go_roundg (2 - a)
        case measure => omega
        case rel => exact ⟨a + 1, m, by omega, by rw [HS.out]; go_num, by go_num, rfl⟩
    · have : a = 3 := by omega
      subst this
      rw [HC.out]
      have e3 : ((3 : Nat) : Int) = 3 := rfl
      rw [e3]
      clear e3
      go_wp2_with fail
      go_loopg [44] (s.ql t).length (fun g2 v wr => ∃ i m : Nat, g2 + i = (s.ql t).length ∧ v = .int .i64 (i : Int) ∧ wr = W.drewN m)
      case atStart => exact ⟨0, m, by omega, rfl, rfl⟩
      case round =>
        obtain ⟨i, m, hgi, rfl, rfl⟩ := hrel
        by_cases hi : i < (s.ql t).length
        · have hiI : (i : Int) < ((s.ql t).length : Int) := by omega
          obtain ⟨gs, capq, szs, cs, hx1, -, -, -, -, hx5⟩ := (hA.locks.row t).at hi
          rw [HQV.out] at hx1
          simp at hx1
          obtain ⟨rfl, rfl⟩ := hx1
          obtain ⟨l, k, hl0, hl, hk, hth, hpl⟩ := hI.lk t i ht hi
          rw [hl0] at hx5
          have ch := hold_made (hA.drewN m) hL t l hl
          have HK : Hid (k < s.hn l ∧ s.th (l, k) = t ∧ s.pl (l, k) = i) := ⟨hk, hth, hpl⟩
          clear hl0 hk hth hpl
          go_wp2_with fail
          refine ch.mono ?_
          rintro e w2 ⟨v, rfl, hH, m2, rfl⟩
          obtain ⟨hk, hth, hpl⟩ := HK.out
          rcases hH with ⟨-, hno⟩ | ⟨k', g, hk', hth', hhv, rfl⟩
          · exact absurd hth (hno k hk)
          · have : k = k' := hI.thd l k k' hl hk hk' (hth.trans hth'.symm)
            subst this
            have hkc : k < s.hc l := Nat.lt_of_lt_of_le hk (h.holds.val l).2.1
            obtain ⟨-, -, p1, p2, -, -⟩ := hA.hcell hhv hkc
            rw [hpl] at p1
            obtain ⟨asl, cps, hsv⟩ := (hA.slots.row (l, k)).val
            rw [hsv] at p2
            have hzs : ((s.sl (l, k)).length : Int) ≤ 5000 := by have := hI.zs l k hl; omega
            have HTH : Hid (s.th (l, k) = t) := hth
            have HSV : Hid (s.sv (l, k) = .slice asl (s.sl (l, k)).length cps) := hsv
            clear hth hpl hth' hsv ch HK hhv
            go_wp2_with fail
            go_loopg [68] (s.sl (l, k)).length (fun g3 v wr => ∃ j m : Nat, g3 + j = (s.sl (l, k)).length ∧ v = .int .i64 (j : Int) ∧ wr = W.drewN m)
            case atStart => exact ⟨0, _, by omega, rfl, rfl⟩
            case round =>
              obtain ⟨j, m, hgj, rfl, rfl⟩ := hrel
              by_cases hj : j < (s.sl (l, k)).length
              · have hjI : (j : Int) < ((s.sl (l, k)).length : Int) := by omega
                obtain ⟨gs2, capq2, szs2, cs2, hx1, -, -, -, -, hx6⟩ := (hA.slots.row (l, k)).at hj
                rw [HSV.out] at hx1
                simp at hx1
                obtain ⟨rfl, rfl⟩ := hx1
                obtain ⟨hn1, hn2⟩ := hI.sin l k ((s.sl (l, k)).getD j 0) hl hk (by
                  have : (s.sl (l, k)).getD j 0 = (s.sl (l, k))[j] := by simp [List.getD, hj]
                  rw [this]
                  exact List.getElem_mem hj)
                rw [HTH.out] at hn1 hn2
                generalize (s.sl (l, k)).getD j 0 = n at hx6 hn1 hn2
                rcases hq.rows.row t with ⟨-, h0⟩ | ⟨gx, capx2, szx, cx, hv2, k1, k2, k3, k4, k5⟩
                · rw [h0] at hn1
                  simp at hn1
                rw [HXV.out] at hv2
                simp at hv2
                obtain ⟨rfl, rfl⟩ := hv2
                have a5 := (k5 n hn1).2.2.2.2.2
                have g5 : W.cell? ⟨gx, n * 6 + 5, none⟩ = some (.int .u8 (((s.xk t).getD n 0 : Nat) : Int)) := (k3.cell (by omega)).trans (by rw [a5])
                generalize (s.xk t).getD n 0 = u at g5 hn2
                have hnI : (n : Int) < ((s.xk t).length : Int) := by omega
                have h2I : ((u : Int) == 2) = false := by
                  simp only [beq_eq_false_iff_ne]
                  omega
                clear a5 k1 k2 k3 k4 k5
                go_wp2_with fail
                go_roundg ((s.sl (l, k)).length - (j + 1))
                case measure => omega
                case rel => exact ⟨j + 1, m, by omega, by go_num, rfl⟩
              · have hjD : decide ((j : Int) < ((s.sl (l, k)).length : Int)) = false := by simp; omega
                go_wp2_with fail
                go_roundg ((s.ql t).length - (i + 1))
                case measure => omega
                case rel => exact ⟨i + 1, m, by omega, by go_num, rfl⟩
        · have hiD : decide ((i : Int) < ((s.ql t).length : Int)) = false := by simp; omega
          obtain ⟨o, rfl⟩ := HW.out
          go_wp2
          go_ret
          exact ⟨rfl, m, o, rfl⟩

#print axioms threadok_made
end Go.Proofs.Ybulkbzhm
