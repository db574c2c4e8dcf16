/-
  collect: every queued version goes; each item keeps its latest.
-/
import Derived.Test.YbulkbzccStore
namespace Go.Proofs.Ybulkbzcc
open Go.RowKit
open Go.WideShapes (add_plain)

/-- How many of the first k queued are of item i. -/
def tot (qi : Nat → Nat) (i : Nat) : Nat → Nat
  | 0 => 0
  | k + 1 => tot qi i k + if qi k = i then 1 else 0

theorem tot_mono (qi : Nat → Nat) (i : Nat) {k m : Nat} (h : k ≤ m) : tot qi i k ≤ tot qi i m := by
  induction m with
  | zero => have : k = 0 := by omega
            subst this; exact Nat.le_refl _
  | succ m ih =>
    by_cases e : k = m + 1
    · subst e; exact Nat.le_refl _
    · exact Nat.le_trans (ih (by omega)) (by simp [tot])

theorem tot_le (qi : Nat → Nat) (i k : Nat) : tot qi i k ≤ k := by
  induction k with
  | zero => exact Nat.le_refl _
  | succ k ih => simp only [tot]; split <;> omega

theorem tot_congr {qi qj : Nat → Nat} (i : Nat) {k : Nat} (h : ∀ j, j < k → qi j = qj j) : tot qi i k = tot qj i k := by
  induction k with
  | zero => rfl
  | succ k ih => simp only [tot, ih (fun j hj => h j (by omega)), h k (by omega)]

theorem KeptOK.congr {w : World} {X : Nat → Prop} {K n : Nat} {lat lat' : Nat → Int} {cnt cnt' : Nat → Nat} (h : KeptOK w X K n lat cnt) (h1 : ∀ i, i ≤ n → lat i = lat' i) (h2 : ∀ i, i ≤ n → cnt i = cnt' i) : KeptOK w X K n lat' cnt' := by
  obtain ⟨hK, ck, Bk, ok, cp, hb, hi, hd⟩ := h
  exact ⟨hK, ck, Bk, ok, cp, hb, fun i hn => by rw [← h1 i hn, ← h2 i hn]; exact hi i hn, hd⟩

/-- What collect alone may turn. -/
def Ec (e : TypeId) : Prop := e = 75 ∨ e = 94 ∨ e = 79

theorem Chg.es {X : Nat → Prop} {w w1 : World} (h : Chg X (fun e => e = 94 ∨ e = 79) w w1) : Chg X Ec w w1 := h.mono fun e he => by rcases he with rfl | rfl <;> simp [Ec]

theorem Blk.drewN {w : World} {g : Nat} {e : TypeId} {sz : Nat} {c : Nat → Value} (h : Blk w g e sz c) (m : Nat) : Blk (w.drewN m) g e sz c := h.of_block rfl
theorem Chg.drewN {X : Nat → Prop} {E : TypeId → Prop} {w w1 : World} (h : Chg X E w w1) (m : Nat) : Chg X E w (w1.drewN m) := h.trans ⟨rfl, rfl, rfl, Nat.le_refl _, fun _ _ _ _ _ _ => rfl, fun _ _ => rfl⟩

theorem collect_end (X : Nat → Prop) (L K n : Nat) (c : Nat → Value) (lat : Nat → Int) (w wr : World) (v4 : Value) (r u : Int) (m : Nat) (hb : Blk wr L 75 15 c) (nX : ¬ X L) (hk : KeptOK wr X K n lat (fun _ => 0)) (hc : Chg X (fun e => e = 94 ∨ e = 79) w wr) :
    Blk ((((wr.setCell ⟨L, 4, none⟩ v4).setCell ⟨L, 7, none⟩ (.int .i64 r)).drewN m).setCell ⟨L, 6, none⟩ (.int .i64 u)) L 75 15 (fun j => if j = 6 then .int .i64 u else if j = 7 then .int .i64 r else if j = 4 then v4 else c j) ∧
    KeptOK ((((wr.setCell ⟨L, 4, none⟩ v4).setCell ⟨L, 7, none⟩ (.int .i64 r)).drewN m).setCell ⟨L, 6, none⟩ (.int .i64 u)) X K n lat (fun _ => 0) ∧
    Chg X Ec w ((((wr.setCell ⟨L, 4, none⟩ v4).setCell ⟨L, 7, none⟩ (.int .i64 r)).drewN m).setCell ⟨L, 6, none⟩ (.int .i64 u)) := by
  have b1 := hb.set 4 v4
  have b2 := b1.set 7 (.int .i64 r)
  have b3 := (b2.drewN m).set 6 (.int .i64 u)
  have q1 := (Chg.refl X (fun e => e = 75) wr).setCell hb nX rfl 4 v4
  have q2 := q1.setCell b1 nX rfl 7 (.int .i64 r)
  have q3 := (q2.drewN m).setCell (b2.drewN m) nX rfl 6 (.int .i64 u)
  exact ⟨b3, hk.chg q3 (by decide) (by decide), hc.es.trans (q3.mono fun e he => .inl he)⟩

set_option maxRecDepth 100000 in
set_option maxHeartbeats 1000000 in
theorem collect_some (X : Nat → Prop) (L K n : Nat) (c : Nat → Value) (lat : Nat → Int) (nq : Nat) (qi : Nat → Nat) (w : World) (g o cap sz : Nat) (x cq : Nat → Value) (pk rm : Int)
    (hb : Blk w L 75 15 c) (nX : ¬ X L) (c3 : c 3 = .slice (some ⟨K, 0, none⟩) (n + 1) (n + 1)) (hk : KeptOK w X K n lat (fun i => tot qi i nq)) (c5 : c 5 = .slice none 0 0) (c6 : c 6 = .int .i64 pk) (c7 : c 7 = .int .i64 rm)
    (c4 : c 4 = .slice (some ⟨g, o, none⟩) nq cap) (hcap : nq ≤ cap) (hq : Blk w g 105 sz cq) (hin : o + cap * 2 ≤ sz) (hx : ∀ j, j < nq * 2 → cq (o + j) = x j)
    (hqi : ∀ j, j < nq → qi j ≤ n ∧ (∃ num : Int, num < 9223372036854775807 ∧ x (j * 2) = .int .i64 num) ∧ x (j * 2 + 1) = .int .i64 (qi j : Int)) (hn : n ≤ 100000) (hnq : nq ≤ 100000) :
    Calls Yba.prog 28 #[.pointer (some ⟨L, 3, none⟩)] w fun e w' => e = .returned (.tuple #[]) ∧ ∃ pk' rm' : Int, Blk w' L 75 15 (fun j => if j = 6 then .int .i64 pk' else if j = 7 then .int .i64 rm' else if j = 4 then .slice (some ⟨g, o, none⟩) 0 cap else c j) ∧
      KeptOK w' X K n lat (fun _ => 0) ∧ Chg X Ec w w' := by
  have hK := hk
  go_enter Yba.func28, Yba.ntmps28
  have q3 : w.cell? ⟨L, 3, none⟩ = some (.slice (some ⟨K, 0, none⟩) (n + 1) (n + 1)) := (hb.cell (i := 3) (by omega)).trans (by rw [c3])
  have q5 : w.cell? ⟨L, 3 + 2, none⟩ = some (.slice none 0 0) := (hb.cell (i := 5) (by omega)).trans (by rw [c5])
  go_wp2
  go_loopw [3] (fun i wr => ∃ k : Nat, k ≤ nq ∧ i = .int .i64 k ∧ KeptOK wr X K n lat (fun i => tot qi i nq - tot qi i k) ∧ Chg X (fun e => e = 94 ∨ e = 79) w wr)
    (fun i _ => nq - (intOf i).toNat)
  case atStart => exact ⟨0, Nat.zero_le _, rfl, hK.congr (fun _ _ => rfl) (fun i _ => by simp [tot]), Chg.refl _ _ _⟩
  case round =>
    obtain ⟨k, hkq, rfl, hkk, hch⟩ := hrel
    have hb1 := hch.blk hb (by decide)
    have hq1 := hch.blk hq (by decide)
    have q4 : wr.cell? ⟨L, 3 + 1, none⟩ = some (.slice (some ⟨g, o, none⟩) nq cap) := (hb1.cell (i := 4) (by omega)).trans (by rw [c4])
    by_cases hlt : k < nq
    · obtain ⟨hqn, ⟨num, hnum, e1⟩, e2⟩ := hqi k hlt
      have y0 : wr.cell? ⟨g, o + k * 2, none⟩ = some (.int .i64 num) := (hq1.cell (i := o + k * 2) (by omega)).trans (by rw [hx _ (by omega), e1])
      have y1 : wr.cell? ⟨g, o + k * 2 + 1, none⟩ = some (.int .i64 (qi k : Int)) := (hq1.cell (i := o + k * 2 + 1) (by omega)).trans (by rw [Nat.add_assoc, hx _ (by omega), e2])
      have hm := tot_mono qi (qi k) (show k + 1 ≤ nq by omega)
      simp only [tot, if_true] at hm
      have hle := tot_le qi (qi k) nq
      have hd1 : 1 ≤ (fun i => tot qi i nq - tot qi i k) (qi k) := by simp only; omega
      have hd2 : (fun i => tot qi i nq - tot qi i k) (qi k) ≤ 100000 := by simp only; omega
      go_wp2_with fail
      refine (drop_any X L K n (qi k) lat _ c wr hb1 c3 hkk hqn hd1 hd2).mono ?_
      rintro e w1 ⟨rfl, hk1, hc1⟩
      go_wp2
      go_roundw
      case rel =>
        refine ⟨k + 1, by omega, by go_num, hk1.congr (fun _ _ => rfl) (fun i _ => ?_), hch.trans hc1⟩
        simp only [tot]
        by_cases e : i = qi k
        · subst e
          simp
          omega
        · have e' : ¬ qi k = i := fun h => e h.symm
          simp [e, e']
      case measure => simp [intOf]; omega
    · have hkm : k = nq := by omega
      subst hkm
      clear hqi hx
      have zL : ∀ j, wr.frozen? ⟨L, j, none⟩ = false := hb1.frozen
      have r3 : wr.cell? ⟨L, 3, none⟩ = some (.slice (some ⟨K, 0, none⟩) (n + 1) (n + 1)) := (hb1.cell (i := 3) (by omega)).trans (by rw [c3])
      have r6 : wr.cell? ⟨L, 6, none⟩ = some (.int .i64 pk) := (hb1.cell (i := 6) (by omega)).trans (by rw [c6])
      have r7 : wr.cell? ⟨L, 7, none⟩ = some (.int .i64 rm) := (hb1.cell (i := 7) (by omega)).trans (by rw [c7])
      go_wp2_with fail
      go_region_with (go_at_call 34; refine (held_any L n 0 (some ⟨K, 0, none⟩) (some ⟨g, o, none⟩) (n + 1) cap _ (by go_simp) (by go_simp) hn (by omega)).mono ?_; rintro e w1 ⟨rfl, m, rfl⟩)
      all_goals go_wp2
      all_goals go_end0
      all_goals
        obtain ⟨f1, f2, f3⟩ := collect_end X L K n c lat w wr _ _ _ _ hb1 nX (hkk.congr (fun _ _ => rfl) (fun _ _ => Nat.sub_self _)) hch
        exact ⟨rfl, ⟨_, _, f1⟩, f2, f3⟩

set_option maxRecDepth 100000 in
set_option maxHeartbeats 1000000 in
theorem collect_none (X : Nat → Prop) (L K n : Nat) (c : Nat → Value) (lat : Nat → Int) (w : World) (pk rm : Int)
    (hb : Blk w L 75 15 c) (nX : ¬ X L) (c3 : c 3 = .slice (some ⟨K, 0, none⟩) (n + 1) (n + 1)) (hk : KeptOK w X K n lat (fun _ => 0)) (c5 : c 5 = .slice none 0 0) (c6 : c 6 = .int .i64 pk) (c7 : c 7 = .int .i64 rm)
    (c4 : c 4 = .slice none 0 0) (hn : n ≤ 100000) :
    Calls Yba.prog 28 #[.pointer (some ⟨L, 3, none⟩)] w fun e w' => e = .returned (.tuple #[]) ∧ ∃ pk' rm' : Int, Blk w' L 75 15 (fun j => if j = 6 then .int .i64 pk' else if j = 7 then .int .i64 rm' else if j = 4 then .slice none 0 0 else c j) ∧
      KeptOK w' X K n lat (fun _ => 0) ∧ Chg X Ec w w' := by
  have q5 : w.cell? ⟨L, 5, none⟩ = some (.slice none 0 0) := (hb.cell (i := 5) (by omega)).trans (by rw [c5])
  have q4 : w.cell? ⟨L, 4, none⟩ = some (.slice none 0 0) := (hb.cell (i := 4) (by omega)).trans (by rw [c4])
  have zL : ∀ j, w.frozen? ⟨L, j, none⟩ = false := hb.frozen
  have r3 : w.cell? ⟨L, 3, none⟩ = some (.slice (some ⟨K, 0, none⟩) (n + 1) (n + 1)) := (hb.cell (i := 3) (by omega)).trans (by rw [c3])
  have r6 : w.cell? ⟨L, 6, none⟩ = some (.int .i64 pk) := (hb.cell (i := 6) (by omega)).trans (by rw [c6])
  have r7 : w.cell? ⟨L, 7, none⟩ = some (.int .i64 rm) := (hb.cell (i := 7) (by omega)).trans (by rw [c7])
  go_enter Yba.func28, Yba.ntmps28
  go_wp2
  go_loopw [3] (fun i wr => i = .int .i64 0 ∧ wr = w) (fun _ _ => 0)
  case atStart => exact ⟨rfl, rfl⟩
  case round =>
    obtain ⟨rfl, rfl⟩ := hrel
    go_wp2_with fail
    go_region_with (go_at_call 34; refine (held_any L n 0 (some ⟨K, 0, none⟩) none (n + 1) 0 _ (by go_simp) (by go_simp) hn (by omega)).mono ?_; rintro e w1 ⟨rfl, m, rfl⟩)
    all_goals go_wp2
    all_goals go_end0
    all_goals
      obtain ⟨f1, f2, f3⟩ := collect_end X L K n c lat wr wr _ _ _ _ hb nX hk (Chg.refl _ _ _)
      exact ⟨rfl, ⟨_, _, f1⟩, f2, f3⟩

/-- 'collect', whatever the queue. -/
theorem collect_any (X : Nat → Prop) (L K n : Nat) (c : Nat → Value) (lat : Nat → Int) (nq : Nat) (qi : Nat → Nat) (w : World) (h : StoreC w X L K n c lat (fun i => tot qi i nq) nq qi) (hn : n ≤ 100000) (hnq : nq ≤ 100000) :
    Calls Yba.prog 28 #[.pointer (some ⟨L, 3, none⟩)] w fun e w' => e = .returned (.tuple #[]) ∧ ∃ c', StoreC w' X L K n c' lat (fun _ => 0) 0 qi ∧ (∀ j, j ≠ 4 → j ≠ 6 → j ≠ 7 → c' j = c j) ∧ Chg X Es w w' := by
  obtain ⟨hb, nX, c3, hk, c5, ⟨pk, c6⟩, ⟨rm, c7⟩, ⟨x, hq, hqi⟩, qX⟩ := h
  have none0 : nq = 0 → KeptOK w X K n lat (fun _ => 0) := fun h0 => hk.congr (fun _ _ => rfl) (fun i _ => by subst h0; rfl)
  rcases hq with ⟨c4, h0⟩ | ⟨g, o, cap, sz, cq, c4, h2, h3, h4, h5, h6⟩
  · refine (collect_none X L K n c lat w pk rm hb nX c3 (none0 h0) c5 c6 c7 c4 hn).mono ?_
    rintro e w' ⟨rfl, pk', rm', f1, f2, f3⟩
    refine ⟨rfl, _, ⟨f1, nX, by simpa using c3, f2, by simpa using c5, ⟨pk', by simp⟩, ⟨rm', by simp⟩, ⟨fun _ => undef, by simp [SliceIs.nil], fun j hj => by omega⟩, by simp [Value.ownBlock]⟩, fun j j4 j6 j7 => by simp [j4, j6, j7], f3.mono fun e he => by rcases he with rfl | rfl | rfl <;> simp [Es]⟩
  · refine (collect_some X L K n c lat nq qi w g o cap sz x cq pk rm hb nX c3 hk c5 c6 c7 c4 h2 h4 h5 h6 hqi hn hnq).mono ?_
    rintro e w' ⟨rfl, pk', rm', f1, f2, f3⟩
    refine ⟨rfl, _, ⟨f1, nX, by simpa using c3, f2, by simpa using c5, ⟨pk', by simp⟩, ⟨rm', by simp⟩, ⟨fun j => cq (o + j), ?_, fun j hj => by omega⟩, ?_⟩, fun j j4 j6 j7 => by simp [j4, j6, j7], f3.mono fun e he => by rcases he with rfl | rfl | rfl <;> simp [Es]⟩
    · simp only [show ¬ (4 : Nat) = 6 by decide, show ¬ (4 : Nat) = 7 by decide, if_false, if_true]
      exact .inr ⟨g, o, cap, sz, cq, rfl, Nat.zero_le _, h3, f3.blk h4 (by unfold Ec; decide), h5, fun j hj => by omega⟩
    · simp only [show ¬ (4 : Nat) = 6 by decide, show ¬ (4 : Nat) = 7 by decide, if_false, if_true]
      rw [c4] at qX
      simpa [Value.ownBlock] using qX

#print axioms collect_any
end Go.Proofs.Ybulkbzcc
