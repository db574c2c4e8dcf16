import Derived.Test.YbulkbzccLog
import Derived.RegionTactic
namespace Go.Proofs.Ybulkbzcc
open Go.RowKit
open Go.WideShapes (add_plain)

theorem heap_drew' (w : World) : w.drew.heap = w.heap := rfl

set_option maxRecDepth 100000 in
theorem drop_two (L K N B o cp i : Nat) (a lt b : Int) (v0 v1 v2 : Value) (w : World) (hi : i < N) (g3 : w.cell? ⟨L, 3, none⟩ = some (.slice (some ⟨K, 0, none⟩) N N)) (hk : w.cell? ⟨K, i, none⟩ = some (.slice (some ⟨B, o, none⟩) 2 cp)) (hcp : 2 ≤ cp)
    (c0 : w.cell? ⟨B, o, none⟩ = some v0) (c1 : w.cell? ⟨B, o + 1, none⟩ = some v1) (c2 : w.cell? ⟨B, o + 2, none⟩ = some v2)
    (c3 : w.cell? ⟨B, o + 3, none⟩ = some (.int .i64 a)) (c4 : w.cell? ⟨B, o + 3 + 1, none⟩ = some (.int .i64 lt)) (c5 : w.cell? ⟨B, o + 3 + 2, none⟩ = some (.int .i64 b))
    (zB : ∀ j, w.frozen? ⟨B, j, none⟩ = false) (zK : ∀ j, w.frozen? ⟨K, j, none⟩ = false) (hBK : B ≠ K) (hBL : B ≠ L) (hKL : K ≠ L) :
    Calls Yba.prog 33 #[.pointer (some ⟨L, 3, none⟩), .int .i64 (i : Int)] w fun e w' => e = .returned (.tuple #[]) ∧
      w' = (((((((w.setCell ⟨B, o, none⟩ (.int .i64 a)).setCell ⟨B, o + 1, none⟩ (.int .i64 lt)).setCell ⟨B, o + 2, none⟩ (.int .i64 b)).setCell ⟨B, o + 3, none⟩ (.int .i64 0)).setCell ⟨B, o + 3 + 1, none⟩ (.int .i64 0)).setCell ⟨B, o + 3 + 2, none⟩ (.int .i64 0)).setCell ⟨K, i, none⟩ (.slice (some ⟨B, o, none⟩) 1 cp)).drew := by
  have hKB : K ≠ B := fun h => hBK h.symm
  have hLB : L ≠ B := fun h => hBL h.symm
  have hLK : L ≠ K := fun h => hKL h.symm
  go_enter Yba.func33, Yba.ntmps33
  go_wp2
  go_region
  go_wp2
  exact bodyPost_ret (results_none Yba.results33 _ _ _) rfl ⟨rfl, rfl⟩

set_option maxRecDepth 100000 in
theorem drop_more (L K N B o cp i m : Nat) (v0 v1 v2 : Value) (w : World) (hi : i < N) (g3 : w.cell? ⟨L, 3, none⟩ = some (.slice (some ⟨K, 0, none⟩) N N)) (hk : w.cell? ⟨K, i, none⟩ = some (.slice (some ⟨B, o, none⟩) (m + 3) cp)) (hm : m ≤ 100000) (hcp : m + 3 ≤ cp)
    (c0 : w.cell? ⟨B, o, none⟩ = some v0) (c1 : w.cell? ⟨B, o + 1, none⟩ = some v1) (c2 : w.cell? ⟨B, o + 2, none⟩ = some v2)
    (zB : ∀ j, w.frozen? ⟨B, j, none⟩ = false) (zK : ∀ j, w.frozen? ⟨K, j, none⟩ = false) (hBK : B ≠ K) (hBL : B ≠ L) (hKL : K ≠ L) :
    Calls Yba.prog 33 #[.pointer (some ⟨L, 3, none⟩), .int .i64 (i : Int)] w fun e w' => e = .returned (.tuple #[]) ∧
      w' = ((((w.setCell ⟨B, o, none⟩ (.int .i64 0)).setCell ⟨B, o + 1, none⟩ (.int .i64 0)).setCell ⟨B, o + 2, none⟩ (.int .i64 0)).setCell ⟨K, i, none⟩ (.slice (some ⟨B, o + 3, none⟩) (m + 2) (cp - 1))).drew := by
  have hKB : K ≠ B := fun h => hBK h.symm
  have hLB : L ≠ B := fun h => hBL h.symm
  have hLK : L ≠ K := fun h => hKL h.symm
  have hne : ((m : Int) + 3 == 2) = false := by simp; omega
  go_enter Yba.func33, Yba.ntmps33
  go_wp2
  go_region
  go_wp2
  go_end0
  exact ⟨rfl, rfl⟩

set_option maxHeartbeats 1000000 in
/-- 'drop': one version less of the item; its latest stands. -/
theorem drop_any (X : Nat → Prop) (L K n i : Nat) (lat : Nat → Int) (cnt : Nat → Nat) (c : Nat → Value) (w : World) (hL : Blk w L 75 15 c) (c3 : c 3 = .slice (some ⟨K, 0, none⟩) (n + 1) (n + 1)) (h : KeptOK w X K n lat cnt) (hi : i ≤ n) (hc : 1 ≤ cnt i) (hcm : cnt i ≤ 100000) :
    Calls Yba.prog 33 #[.pointer (some ⟨L, 3, none⟩), .int .i64 (i : Int)] w fun e w' => e = .returned (.tuple #[]) ∧ KeptOK w' X K n lat (fun j => if j = i then cnt i - 1 else cnt j) ∧ Chg X (fun e => e = 94 ∨ e = 79) w w' := by
  obtain ⟨hK, ck, Bk, ok, cp, hb, hit, hd⟩ := h
  have g3 : w.cell? ⟨L, 3, none⟩ = some (.slice (some ⟨K, 0, none⟩) (n + 1) (n + 1)) := (hL.cell (i := 3) (by omega)).trans (by rw [c3])
  obtain ⟨hv, h2, h3, h4, sz, cb, h5, h6, a, b, e1, e2, e3⟩ := hit i hi
  have hk := hb.cell (i := i) (by omega)
  rw [hv] at hk
  have hBK : Bk i ≠ K := h5.ne hb (by decide)
  have hBL : Bk i ≠ L := h5.ne hL (by decide)
  have hKL : K ≠ L := hb.ne hL (by decide)
  have hKB : K ≠ Bk i := fun h => hBK h.symm
  have hlat : ∀ j, (if j = i then lat i else lat j) = lat j := fun j => by by_cases e : j = i <;> simp [e]
  have fin : ∀ (w' : World) (o' cp' ct' : Nat) (cb' : Nat → Value), ct' = cnt i - 1 → Blk w' K 94 (n + 1) (fun j => if j = i then .slice (some ⟨Bk i, o', none⟩) (ct' + 1) cp' else ck j) → Blk w' (Bk i) 79 sz cb' → (∀ g, g ≠ K → g ≠ Bk i → w'.heap[g]? = w.heap[g]?) → Chg X (fun e => e = 94 ∨ e = 79) w w' →
      ok i ≤ o' → o' + cp' * 3 ≤ ok i + cp i * 3 → ct' + 1 ≤ cp' → cp' ≤ maxLen → cb' (o' + ct' * 3) = .int .i64 a → cb' (o' + ct' * 3 + 1) = .int .i64 (lat i) → cb' (o' + ct' * 3 + 2) = .int .i64 b → (∀ k, k < ok i ∨ ok i + cp i * 3 ≤ k → cb' k = cb k) →
      KeptOK w' X K n lat (fun j => if j = i then cnt i - 1 else cnt j) ∧ Chg X (fun e => e = 94 ∨ e = 79) w w' := by
    intro w' o' cp' ct' cb' ect bK bB hkeep hchg q1 q2 q3 q4 q5 q6 q7 hcb
    refine ⟨?_, hchg⟩
    · have := KeptOK.update (w1 := w') hK hit hd i (.slice (some ⟨Bk i, o', none⟩) (ct' + 1) cp') (Bk i) o' cp' ct' (lat i) bK ⟨rfl, q3, q4, h4, sz, cb', bB, by omega, a, b, q5, q6, q7⟩ (fun j hj hne sz2 cb2 hb2 => ?_) (fun j hj hne => ?_)
      · obtain ⟨r1, ck', Bk', ok', cp'', r2, r3, r4⟩ := this
        refine ⟨r1, ck', Bk', ok', cp'', r2, fun j hj => ?_, r4⟩
        have := r3 j hj
        simp only [hlat, ect] at this
        exact this
      · by_cases eB : Bk j = Bk i
        · obtain ⟨_, rfl, hcc⟩ := hb2.size_eq (eB ▸ h5)
          refine ⟨cb', eB ▸ bB, fun k k1 k2 => ?_⟩
          have hdj := hd i j hi hj fun h => hne h.symm
          obtain ⟨_, _, _, _, sz3, cb3, r5, r6, _⟩ := hit j hj
          obtain ⟨_, rfl, _⟩ := hb2.size_eq r5
          rw [hcb k (by rcases hdj with h | h | h; exact absurd eB.symm h; exact .inr (by omega); exact .inl (by omega)), hcc k (by omega)]
        · exact ⟨cb2, hb2.of_block (hkeep _ (hb2.ne hb (by decide)) eB), fun _ _ _ => rfl⟩
      · rcases hd i j hi hj (fun h => hne h.symm) with h | h | h
        · exact .inl h
        · exact .inr (.inl (by omega))
        · exact .inr (.inr (by omega))
  by_cases h1 : cnt i = 1
  · rw [h1] at hk h2 e1 e2 e3
    have h6' : ok i + 6 ≤ sz := by omega
    have a0 := h5.cell (i := ok i) (by omega)
    have a1 := h5.cell (i := ok i + 1) (by omega)
    have a2 := h5.cell (i := ok i + 2) (by omega)
    have a3 := h5.cell (i := ok i + 3) (by omega)
    have a4 := h5.cell (i := ok i + 3 + 1) (by omega)
    have a5 := h5.cell (i := ok i + 3 + 2) (by omega)
    rw [Nat.one_mul] at e1 e2 e3
    rw [e1] at a3
    rw [e2] at a4
    rw [e3] at a5
    refine (drop_two L K (n + 1) (Bk i) (ok i) (cp i) i a (lat i) b (cb (ok i)) (cb (ok i + 1)) (cb (ok i + 2)) w (by omega) g3 hk h2 a0 a1 a2 a3 a4 a5 h5.frozen hb.frozen hBK hBL hKL).mono ?_
    rintro e w' ⟨rfl, rfl⟩
    have b1 := h5.set (ok i) (.int .i64 a)
    have b2 := b1.set (ok i + 1) (.int .i64 (lat i))
    have b3 := b2.set (ok i + 2) (.int .i64 b)
    have b4 := b3.set (ok i + 3) (.int .i64 0)
    have b5 := b4.set (ok i + 3 + 1) (.int .i64 0)
    have b6 := b5.set (ok i + 3 + 2) (.int .i64 0)
    have kk := ((((((hb.set_other (a := ⟨Bk i, ok i, none⟩) hKB (.int .i64 a)).set_other (a := ⟨Bk i, ok i + 1, none⟩) hKB (.int .i64 (lat i))).set_other (a := ⟨Bk i, ok i + 2, none⟩) hKB (.int .i64 b)).set_other (a := ⟨Bk i, ok i + 3, none⟩) hKB (.int .i64 0)).set_other (a := ⟨Bk i, ok i + 3 + 1, none⟩) hKB (.int .i64 0)).set_other (a := ⟨Bk i, ok i + 3 + 2, none⟩) hKB (.int .i64 0))
    have q1 := (Chg.refl X (fun e => e = 94 ∨ e = 79) w).setCell h5 h4 (.inr rfl) (ok i) (.int .i64 a)
    have q2 := q1.setCell b1 h4 (.inr rfl) (ok i + 1) (.int .i64 (lat i))
    have q3 := q2.setCell b2 h4 (.inr rfl) (ok i + 2) (.int .i64 b)
    have q4 := q3.setCell b3 h4 (.inr rfl) (ok i + 3) (.int .i64 0)
    have q5 := q4.setCell b4 h4 (.inr rfl) (ok i + 3 + 1) (.int .i64 0)
    have q6 := q5.setCell b5 h4 (.inr rfl) (ok i + 3 + 2) (.int .i64 0)
    have q7 := q6.setCell kk hK (.inl rfl) i (.slice (some ⟨Bk i, ok i, none⟩) 1 (cp i))
    refine ⟨rfl, fin _ (ok i) (cp i) 0 _ (by omega) ((kk.set i (.slice (some ⟨Bk i, ok i, none⟩) 1 (cp i))).drew) ((b6.set_other hBK _).drew) (fun g h1 h2 => ?_) q7.drew (Nat.le_refl _) (Nat.le_refl _) (by omega) h3 ?_ ?_ ?_ (fun k hk => ?_)⟩
    · rw [heap_drew', heap_setCell_other _ _ _ _ h1, heap_setCell_other _ _ _ _ h2, heap_setCell_other _ _ _ _ h2, heap_setCell_other _ _ _ _ h2, heap_setCell_other _ _ _ _ h2, heap_setCell_other _ _ _ _ h2, heap_setCell_other _ _ _ _ h2]
    · have k5 : ¬ ok i = ok i + 3 + 2 := by omega
      have k4 : ¬ ok i = ok i + 3 + 1 := by omega
      have k3 : ¬ ok i = ok i + 3 := by omega
      have k2 : ¬ ok i = ok i + 2 := by omega
      have k1 : ¬ ok i = ok i + 1 := by omega
      simp only [Nat.zero_mul, Nat.add_zero, k1, k2, k3, k4, k5, if_true, if_false]
    · have k5 : ¬ ok i + 1 = ok i + 3 + 2 := by omega
      have k4 : ¬ ok i + 1 = ok i + 3 + 1 := by omega
      have k3 : ¬ ok i + 1 = ok i + 3 := by omega
      have k2 : ¬ ok i + 1 = ok i + 2 := by omega
      simp only [Nat.zero_mul, Nat.add_zero, k2, k3, k4, k5, if_true, if_false]
    · have k5 : ¬ ok i + 2 = ok i + 3 + 2 := by omega
      have k4 : ¬ ok i + 2 = ok i + 3 + 1 := by omega
      have k3 : ¬ ok i + 2 = ok i + 3 := by omega
      simp only [Nat.zero_mul, Nat.add_zero, k3, k4, k5, if_true, if_false]
    · have k0 : ¬ k = ok i := by omega
      have k1 : ¬ k = ok i + 1 := by omega
      have k2 : ¬ k = ok i + 2 := by omega
      have k3 : ¬ k = ok i + 3 := by omega
      have k4 : ¬ k = ok i + 3 + 1 := by omega
      have k5 : ¬ k = ok i + 3 + 2 := by omega
      simp only [k0, k1, k2, k3, k4, k5, if_false]
  · obtain ⟨m, hm⟩ : ∃ m, cnt i = m + 2 := ⟨cnt i - 2, by omega⟩
    rw [hm] at hk h2 e1 e2 e3
    have a0 := h5.cell (i := ok i) (by omega)
    have a1 := h5.cell (i := ok i + 1) (by omega)
    have a2 := h5.cell (i := ok i + 2) (by omega)
    refine (drop_more L K (n + 1) (Bk i) (ok i) (cp i) i m (cb (ok i)) (cb (ok i + 1)) (cb (ok i + 2)) w (by omega) g3 hk (by omega) h2 a0 a1 a2 h5.frozen hb.frozen hBK hBL hKL).mono ?_
    rintro e w' ⟨rfl, rfl⟩
    have b1 := h5.set (ok i) (.int .i64 0)
    have b2 := b1.set (ok i + 1) (.int .i64 0)
    have b3 := b2.set (ok i + 2) (.int .i64 0)
    have kk := (((hb.set_other (a := ⟨Bk i, ok i, none⟩) hKB (.int .i64 0)).set_other (a := ⟨Bk i, ok i + 1, none⟩) hKB (.int .i64 0)).set_other (a := ⟨Bk i, ok i + 2, none⟩) hKB (.int .i64 0))
    have q1 := (Chg.refl X (fun e => e = 94 ∨ e = 79) w).setCell h5 h4 (.inr rfl) (ok i) (.int .i64 0)
    have q2 := q1.setCell b1 h4 (.inr rfl) (ok i + 1) (.int .i64 0)
    have q3 := q2.setCell b2 h4 (.inr rfl) (ok i + 2) (.int .i64 0)
    have q7 := q3.setCell kk hK (.inl rfl) i (.slice (some ⟨Bk i, ok i + 3, none⟩) (m + 2) (cp i - 1))
    refine ⟨rfl, fin _ (ok i + 3) (cp i - 1) (m + 1) _ (by omega) ((kk.set i (.slice (some ⟨Bk i, ok i + 3, none⟩) (m + 2) (cp i - 1))).drew) ((b3.set_other hBK _).drew) (fun g h1 h2 => ?_) q7.drew (by omega) (by omega) (by omega) (by omega) ?_ ?_ ?_ (fun k hk => ?_)⟩
    · rw [heap_drew', heap_setCell_other _ _ _ _ h1, heap_setCell_other _ _ _ _ h2, heap_setCell_other _ _ _ _ h2, heap_setCell_other _ _ _ _ h2]
    · have k0 : ¬ ok i + 3 + (m + 1) * 3 = ok i := by omega
      have k1 : ¬ ok i + 3 + (m + 1) * 3 = ok i + 1 := by omega
      have k2 : ¬ ok i + 3 + (m + 1) * 3 = ok i + 2 := by omega
      simp only [k0, k1, k2, if_false]
      rw [← e1]; congr 1; omega
    · have k0 : ¬ ok i + 3 + (m + 1) * 3 + 1 = ok i := by omega
      have k1 : ¬ ok i + 3 + (m + 1) * 3 + 1 = ok i + 1 := by omega
      have k2 : ¬ ok i + 3 + (m + 1) * 3 + 1 = ok i + 2 := by omega
      simp only [k0, k1, k2, if_false]
      rw [← e2]; congr 1; omega
    · have k0 : ¬ ok i + 3 + (m + 1) * 3 + 2 = ok i := by omega
      have k1 : ¬ ok i + 3 + (m + 1) * 3 + 2 = ok i + 1 := by omega
      have k2 : ¬ ok i + 3 + (m + 1) * 3 + 2 = ok i + 2 := by omega
      simp only [k0, k1, k2, if_false]
      rw [← e3]; congr 1; omega
    · have k0 : ¬ k = ok i := by omega
      have k1 : ¬ k = ok i + 1 := by omega
      have k2 : ¬ k = ok i + 2 := by omega
      simp only [k0, k1, k2, if_false]

#print axioms drop_any
end Go.Proofs.Ybulkbzcc
