/-
  The walk of LawS3772BAfterCommits.
-/
import Derived.Test.YbulkbzccCommit
namespace Go.Proofs.Ybulkbzcc
open Go.RowKit
open Go.WideShapes (add_plain)

/-- The first k lengths, added. -/
def sumL (wl : Nat → Nat) : Nat → Nat
  | 0 => 0
  | k + 1 => sumL wl k + wl k

theorem sumL_mono (wl : Nat → Nat) {k m : Nat} (h : k ≤ m) : sumL wl k ≤ sumL wl m := by
  induction m with
  | zero => have : k = 0 := by omega
            subst this; exact Nat.le_refl _
  | succ m ih =>
    by_cases e : k = m + 1
    · subst e; exact Nat.le_refl _
    · exact Nat.le_trans (ih (by omega)) (by simp [sumL])

theorem Chg.belowX {X : Nat → Prop} {E : TypeId → Prop} {w w1 : World} {B : Nat} (h : Chg X E w w1) (hX : ∀ g, g < B → X g) : Below B w w1 := ⟨h.os, h.tape, h.output, h.size, fun g hg => h.fr g (hX g hg)⟩

theorem rd0_at0 {j : Nat} {x : Nat → Value} {It lat : Nat → Int} : withReads 0 x It lat (j * 3) = .bool false := by
  have a2 : j * 3 % 3 = 0 := by omega
  simp [withReads, readCell, a2]
theorem rd0_at1 {j : Nat} {x : Nat → Value} {It lat : Nat → Int} : withReads 0 x It lat (j * 3 + 1) = .int .i64 (It j) := by
  have a1 : (j * 3 + 1) / 3 = j := by omega
  have a2 : (j * 3 + 1) % 3 = 1 := by omega
  simp [withReads, readCell, a1, a2]
theorem rd0_at2 {j : Nat} {x : Nat → Value} {It lat : Nat → Int} : withReads 0 x It lat (j * 3 + 2) = .int .i64 (lat (It j).toNat) := by
  have a1 : (j * 3 + 2) / 3 = j := by omega
  have a2 : (j * 3 + 2) % 3 = 2 := by omega
  simp [withReads, readCell, a1, a2]

set_option maxRecDepth 100000 in
set_option maxHeartbeats 4000000 in
theorem after_walk (N0 : Int) (ns cs sb so ni ci ib io : Nat) (as_ ai : Option Addr) (wa : Nat → Option Addr) (wl wc wb wo : Nat → Nat) (Wx : Nat → Nat → Int) (It0 : Nat → Int) (w : World) (hN0 : 0 ≤ N0) (hN1 : N0 ≤ 65535)
    (hs : RowIs Yba.prog 34 w as_ ns cs sb so (fun k => .slice (wa k) (wl k) (wc k))) (hw : ∀ k, k < ns → RowIs Yba.prog 24 w (wa k) (wl k) (wc k) (wb k) (wo k) (fun j => .int .u16 (Wx k j)))
    (hW0 : ∀ k j, 0 ≤ Wx k j) (hW1 : ∀ k j, Wx k j ≤ 65535) (hlen : ∀ k, k < ns → wl k ≤ 4611686018427387904)
    (hi : RowIs Yba.prog 24 w ai ni ci ib io (fun k => .int .u16 (It0 k))) (hI0 : ∀ k, 0 ≤ It0 k) (hI1 : ∀ k, It0 k ≤ 65535) (hns : ns ≤ 1024) (hni : ni ≤ 1024) :
    Calls Yba.prog 4 #[.int .u16 N0, .slice as_ ns cs, .slice ai ni ci] w fun e w' => e = .returned (.bool true) ∧ Below w.heap.size w w' := by
  obtain ⟨hsa, hsc, hso⟩ := hs
  obtain ⟨hia, hic, hio⟩ := hi
  obtain ⟨S, hS⟩ : ∃ S : Nat, 1 + N0 % 300 = (S : Int) := ⟨(1 + N0 % 300).toNat, by omega⟩
  have hS0 : 1 ≤ S := by omega
  have hS1 : S ≤ 300 := by omega
  obtain ⟨curB, sB, cB, hmB⟩ := make_one Yba.underlying28 info3 rfl S (by omega) (by omega)
  obtain ⟨curM, sM, cM, hmM⟩ := make_one Yba.underlying37 info2 rfl (S + 1) (by omega) (by omega)
  have ecM : ((S + 1 : Nat) : Int) = (S : Int) + 1 := by omega
  rw [ecM] at hmM
  obtain ⟨curI, sI, cI, hmI⟩ := make_one Yba.underlying28 info3 rfl ni (by omega) (by omega)
  have hd1 : decide ((1024 : Int) < (ns : Int)) = false := by simp; omega
  have hd2 : decide ((1024 : Int) < (ni : Int)) = false := by simp; omega
  go_enter Yba.func4, Yba.ntmps4
  go_wp2_with fail
  go_loopw [7, 39] (fun t i wr => ∃ k : Nat, k ≤ ns ∧ i = .int .i64 k ∧ t = .int .i64 (sumL wl k : Nat) ∧ sumL wl k ≤ 1024 ∧ Below w.heap.size w wr)
    (fun _ i _ => ns - (intOf i).toNat)
  case atStart => exact ⟨0, Nat.zero_le _, rfl, rfl, by simp [sumL], Below.refl _ _⟩
  case round =>
    obtain ⟨k, hk, rfl, rfl, hsum, hbel⟩ := hrel
    by_cases hlt : k < ns
    · have hsk : wr.cell? ⟨sb, so + k, none⟩ = some (.slice (wa k) (wl k) (wc k)) := (hbel.cell (p := ⟨sb, so + k, none⟩) (hso (by omega))).trans (hsc k hlt)
      have hl := hlen k hlt
      go_wp2
      · go_ret
        exact ⟨rfl, hbel.alloc hbel.size _⟩
      · refine ⟨⟨k + 1, by omega, by go_num, ?_, ?_, hbel.alloc hbel.size _⟩, by simp [intOf]; omega⟩
        · simp [sumL]
        · simp only [sumL]; omega
    · have hkn : k = ns := by omega
      subst hkn
      have hlk : ∀ j, j < k → wl j ≤ 1024 := fun j hj => by
        have := sumL_mono wl (show j + 1 ≤ k by omega)
        simp only [sumL] at this
        omega
      clear hlen
      go_wp2_with (go_at_call 7; refine (newLog_any wr.heap.size S _ (Blk.new wr curB 3 sB cB) (by omega)).mono ?_; rintro e w1 ⟨L, rfl, hlog, hb1⟩; have hz1 : wr.heap.size + 1 ≤ w1.heap.size := (by simpa using hb1.size))
      have hW1 : Below w.heap.size w w1 := hbel.trans (((Below.refl _ _).alloc (Nat.le_refl _) _).trans (hb1.mono (by simp)) |>.mono hbel.size)
      have hzw : w.heap.size ≤ wr.heap.size := hbel.size
      go_loopw [63] (fun i wx => ∃ q : Nat, q ≤ S + 1 ∧ i = .int .i64 q ∧ Blk wx w1.heap.size 2 (S + 1) (fun j => .int .i64 (if j < q then (j : Int) else 0)) ∧ Below w1.heap.size w1 wx)
        (fun i _ => S + 1 - (intOf i).toNat)
      case atStart => exact ⟨0, Nat.zero_le _, rfl, Blk.new_at _ _ _ rfl sM (fun j hj => by rw [cM j hj]; simp), (Below.refl _ _).alloc (Nat.le_refl _) _⟩
      case round =>
        obtain ⟨q, hq, rfl, hM, hb2⟩ := hrel
        by_cases hlt2 : q < S + 1
        · have hz : wr.cell? ⟨w1.heap.size, q, none⟩ = some (.int .i64 0) := by rw [hM.cell hlt2]; simp
          have hfz := hM.frozen q
          have hqI : (q : Int) < (S : Int) + 1 := by omega
          go_wp2
          go_roundw
          case rel => exact ⟨q + 1, by omega, by go_num, (hM.set q _).congr (fun j hj => by
              by_cases e : j = q
              · subst e; simp
              · have : (j < q + 1) ↔ (j < q) := by omega
                simp [e, this]), hb2.setCell (Nat.le_refl _) _⟩
          case measure => simp [intOf]; omega
        · have hqn : q = S + 1 := by omega
          subst hqn
          obtain ⟨K, O, G, hls0⟩ := hlog.logS (X := fun g => g < w.heap.size ∨ g = w1.heap.size) (fun g hg hx => by rcases hx with h | h <;> simp <;> omega)
          have hls := hls0.below hb2
          have hMs : Blk wr w1.heap.size 2 (S + 1) (fun j => .int .i64 (j : Int)) := hM.congr fun j hj => by simp [hj]
          have hbW : Below w.heap.size w wr := hW1.trans (hb2.mono hW1.size)
          have hMge : w.heap.size ≤ w1.heap.size := hW1.size
          clear hls0 hM hb2 hlog hb1 hz1 hq hlt2 hbel hzw hW1
          generalize w1.heap.size = M at hls hMs hMge ⊢
          go_wp2_with fail
          go_loopw [14, 74] (fun v i wx => ∃ (p : Nat) (lat : Nat → Int), p ≤ k ∧ i = .int .i64 p ∧ v = .int .i64 ((S + sumL wl p : Nat) : Int) ∧ LogS wx (fun g => g < w.heap.size ∨ g = M) L K O G S (2 * p + 2 * sumL wl p) lat ((S + sumL wl p : Nat) : Int) ((1 + p : Nat) : Int) ∧ Blk wx M 2 (S + 1) (fun j => .int .i64 (lat j)) ∧ Below w.heap.size w wx)
            (fun _ i _ => k - (intOf i).toNat)
          case atStart => exact ⟨0, _, Nat.zero_le _, rfl, rfl, hls, hMs, hbW⟩
          case round =>
            clear hls hMs hbW
            obtain ⟨p, lat, hp, rfl, rfl, hls, hM, hbel⟩ := hrel
            by_cases hlt2 : p < k
            · have hsk : wr.cell? ⟨sb, so + p, none⟩ = some (.slice (wa p) (wl p) (wc p)) := (hbel.cell (p := ⟨sb, so + p, none⟩) (hso (by omega))).trans (hsc p hlt2)
              have hl := hlk p hlt2
              have hsp := sumL_mono wl (show p + 1 ≤ k by omega)
              simp only [sumL] at hsp
              obtain ⟨curW, sW, cW, hmW⟩ := make_one Yba.underlying28 info3 rfl (wl p) (by omega) (by omega)
              obtain ⟨hwa, hwc, hwo⟩ := hw p hlt2
              have hMlt := hM.lt
              go_wp2_with fail
              have hls4 : LogS ((wr.alloc (.cells #[.slice (wa p) (wl p) (wc p)] 36)).alloc (.cells curW 3)) (fun g => (g < w.heap.size ∨ g = M) ∨ g = wr.heap.size + 1) L K O G S (2 * p + 2 * sumL wl p) lat ((S + sumL wl p : Nat) : Int) ((1 + p : Nat) : Int) :=
                (hls.congr (X' := fun g => (g < w.heap.size ∨ g = M) ∨ g = wr.heap.size + 1) (fun g hg hx => by rcases hx with h | h; exact h; omega)).below (((Below.refl _ _).alloc (Nat.le_refl _) _).alloc (by simp) _)
              have hM4 : Blk ((wr.alloc (.cells #[.slice (wa p) (wl p) (wc p)] 36)).alloc (.cells curW 3)) M 2 (S + 1) (fun j => .int .i64 (lat j)) := (hM.alloc _).alloc _
              have hbel4 : Below w.heap.size w ((wr.alloc (.cells #[.slice (wa p) (wl p) (wc p)] 36)).alloc (.cells curW 3)) := (hbel.alloc hbel.size _).alloc (by have := hbel.size; simp; omega) _
              have hWs4 : Blk ((wr.alloc (.cells #[.slice (wa p) (wl p) (wc p)] 36)).alloc (.cells curW 3)) (wr.heap.size + 1) 3 (wl p) (fun _ => .int .i64 0) := Blk.new_at _ _ _ (by simp) sW cW
              have hzr : w.heap.size ≤ wr.heap.size := hbel.size
              clear hls hM hbel hsk
              generalize hWb : wr.heap.size + 1 = Wb at hls4 hWs4 ⊢
              generalize (wr.alloc (.cells #[.slice (wa p) (wl p) (wc p)] 36)).alloc (.cells curW 3) = w4 at hls4 hM4 hbel4 hWs4 ⊢
              go_loopw [14, 85] (fun v i wx => ∃ j : Nat, j ≤ wl p ∧ i = .int .i64 j ∧ v = .int .i64 ((S + sumL wl p + j : Nat) : Int) ∧ Blk wx Wb 3 (wl p) (fun i => .int .i64 (if i < j then ((1 + Wx p i % (S : Int)).toNat : Int) else 0)) ∧ Blk wx M 2 (S + 1) (fun i => .int .i64 (latK (fun i => (1 + Wx p i % (S : Int)).toNat) ((S + sumL wl p : Nat) : Int) lat j i)) ∧
                  LogS wx (fun g => (g < w.heap.size ∨ g = M) ∨ g = Wb) L K O G S (2 * p + 2 * sumL wl p) lat ((S + sumL wl p : Nat) : Int) ((1 + p : Nat) : Int) ∧ Below w.heap.size w wx)
                (fun _ i _ => wl p - (intOf i).toNat)
              case atStart => exact ⟨0, Nat.zero_le _, rfl, rfl, hWs4.congr (fun j _ => by simp), hM4, hls4, hbel4⟩
              case round =>
                clear hls4 hM4 hbel4 hWs4
                obtain ⟨j, hj, rfl, rfl, hWs, hM, hls, hbel⟩ := hrel
                by_cases hlt3 : j < wl p
                · have hxj : wr.cell? ⟨wb p, wo p + j, none⟩ = some (.int .u16 (Wx p j)) := (hbel.cell (p := ⟨wb p, wo p + j, none⟩) (hwo (by omega))).trans (hwc j hlt3)
                  have h0 := hW0 p j
                  have h1 := hW1 p j
                  have m0 := Int.emod_nonneg (Wx p j) (show (S : Int) ≠ 0 by omega)
                  have m1 := Int.emod_lt_of_pos (Wx p j) (show (0 : Int) < (S : Int) by omega)
                  obtain ⟨q, hq⟩ : ∃ q : Nat, 1 + Wx p j % (S : Int) = (q : Int) := ⟨(1 + Wx p j % (S : Int)).toNat, by omega⟩
                  have hqS : q ≤ S := by omega
                  have hqI : (q : Int) < (S : Int) + 1 := by omega
                  have hz : wr.cell? ⟨Wb, j, none⟩ = some (.int .i64 0) := by rw [hWs.cell hlt3]; simp
                  have hfz := hWs.frozen j
                  have hzm := hM.cell (i := q) (by omega)
                  have hfm := hM.frozen q
                  have hne : M ≠ Wb := by omega
                  have hltI : (j : Int) < (wl p : Int) := by omega
                  go_wp2
                  have hqe : (1 + Wx p j % (S : Int)).toNat = q := by omega
                  refine ⟨⟨j + 1, by omega, by go_num, by go_num, ?_, ?_, hls.of_blocks fun g _ hg => ?_, (hbel.setCell (by show w.heap.size ≤ Wb; omega) _).setCell (by show w.heap.size ≤ M; omega) _⟩, by simp [intOf]; omega⟩
                  · refine ((hWs.set j _).set_other (a := ⟨M, q, none⟩) (fun h => hne h.symm) _).congr fun i hi => ?_
                    by_cases e : i = j
                    · subst e; simp [hqe]
                    · have : (i < j + 1) ↔ (i < j) := by omega
                      simp [e, this]
                  · refine ((hM.set_other (a := ⟨Wb, j, none⟩) hne _).set q _).congr fun i hi => ?_
                    simp only [latK, hqe]
                    by_cases e : i = q
                    · simp [e]
                    · simp [e]
                  · have g1 : g ≠ M := fun h => hg (.inl (.inr h))
                    have g2 : g ≠ Wb := fun h => hg (.inr h)
                    rw [heap_setCell_other _ _ _ _ g1, heap_setCell_other _ _ _ _ g2]
                · have hjn : j = wl p := by omega
                  have hXx : ∀ g, ((g < w.heap.size ∨ g = M) ∨ g = Wb) → g < wr.heap.size := fun g hg => by
                    have := hbel.size
                    have := hM.lt
                    have := hWs.lt
                    omega
                  have hrow : RowIs Yba.prog 28 wr (some ⟨Wb, 0, none⟩) (wl p) (wl p) Wb 0 (fun i => .int .i64 ((1 + Wx p i % (S : Int)).toNat : Int)) :=
                    ⟨fun i wx h1 h2 => by rw [indexAt_one (t := 28) (e := 3) (by kernel_rfl) (by kernel_rfl) (fun _ => by kernel_rfl) _ _ _ _ _ h1 h2, add_plain], fun i hi => by rw [Nat.zero_add, hWs.cell hi]; simp [show i < j by omega], fun _ => hWs.lt⟩
                  have hItS : ∀ i, i < wl p → (1 + Wx p i % (S : Int)).toNat ≤ S := fun i _ => by
                    have := Int.emod_nonneg (Wx p i) (show (S : Int) ≠ 0 by omega)
                    have := Int.emod_lt_of_pos (Wx p i) (show (0 : Int) < (S : Int) by omega)
                    omega
                  have hltF : decide ((j : Int) < (wl p : Int)) = false := by simp; omega
                  go_wp2_with fail
                  refine (commit_any (fun g => (g < w.heap.size ∨ g = M) ∨ g = Wb) L K O G S (2 * p + 2 * sumL wl p) (wl p) (wl p) Wb 0 (some ⟨Wb, 0, none⟩) lat (fun i => (1 + Wx p i % (S : Int)).toNat) ((S + sumL wl p : Nat) : Int) ((1 + p : Nat) : Int) wr hls hXx hrow hItS (by omega) (by omega) (by omega) ⟨by omega, by omega⟩ ⟨by omega, by omega⟩).mono ?_
                  rintro e w5 ⟨v5, rfl, hls5, hc5⟩
                  go_wp2
                  go_roundw
                  case rel =>
                    (repeat apply Exists.intro)
                    refine ⟨?_, rfl⟩
                    refine ⟨p + 1, latK (fun i => (1 + Wx p i % (S : Int)).toNat) ((S + sumL wl p : Nat) : Int) lat (wl p), by omega, by go_num, ?_, ?_, ?_, hbel.trans (hc5.belowX fun g hg => .inl (.inl hg))⟩
                    · simp only [sumL]; congr 1; omega
                    · have e1 : 2 * (p + 1) + 2 * sumL wl (p + 1) = 2 * p + 2 * sumL wl p + 2 + 2 * wl p := by simp only [sumL]; omega
                      have e2 : ((S + sumL wl (p + 1) : Nat) : Int) = ((S + sumL wl p : Nat) : Int) + (wl p : Nat) := by simp only [sumL]; omega
                      have e3 : ((1 + (p + 1) : Nat) : Int) = ((1 + p : Nat) : Int) + 1 := by omega
                      rw [e1, e2, e3]
                      exact hls5.congr fun g _ hg => .inl hg
                    · rw [← hjn]
                      exact hM.of_block (hc5.fr M (.inl (.inr rfl)))
                  case measure => simp [intOf]; omega
            · have hpn : p = k := by omega
              subst hpn
              rename World => wz
              have hst0 := hls.storeOK
              have hzr : w.heap.size ≤ wz.heap.size := hbel.size
              clear hls
              go_wp2_with fail
              go_loopw [115] (fun i wx => ∃ q : Nat, q ≤ ni ∧ i = .int .i64 q ∧ Blk wx wz.heap.size 3 ni (fun j => .int .i64 (if j < q then It0 j % ((S : Int) + 1) else 0)) ∧ Below wz.heap.size wz wx)
                (fun i _ => ni - (intOf i).toNat)
              case atStart => exact ⟨0, Nat.zero_le _, rfl, Blk.new_at _ _ _ rfl sI (fun j hj => by rw [cI j hj]; simp), (Below.refl _ _).alloc (Nat.le_refl _) _⟩
              case round =>
                obtain ⟨q, hq, rfl, hI, hb5⟩ := hrel
                by_cases hlt5 : q < ni
                · have hick : wr.cell? ⟨ib, io + q, none⟩ = some (.int .u16 (It0 q)) := ((hbel.trans (hb5.mono hzr)).cell (p := ⟨ib, io + q, none⟩) (hio (by omega))).trans (hic q hlt5)
                  have h0 := hI0 q
                  have h1 := hI1 q
                  have hz : wr.cell? ⟨wz.heap.size, q, none⟩ = some (.int .i64 0) := (hI.cell hlt5).trans (by simp)
                  have hfz := hI.frozen q
                  go_wp2
                  go_roundw
                  case rel => exact ⟨q + 1, by omega, by go_num, (hI.set q _).congr (fun j hj => by
                      by_cases e : j = q
                      · subst e; simp
                      · have : (j < q + 1) ↔ (j < q) := by omega
                        simp [e, this]), hb5.setCell (Nat.le_refl _) _⟩
                  case measure => simp [intOf]; omega
                · have hqn : q = ni := by omega
                  subst hqn
                  have hst : StoreOK wr L S lat := hst0.below hb5
                  have hbw : Below w.heap.size w wr := hbel.trans (hb5.mono hzr)
                  have hM5 : Blk wr M 2 (S + 1) (fun j => .int .i64 (lat j)) := hM.below hb5 hM.lt
                  have hMlt := hM.lt
                  have hit : RowIs Yba.prog 28 wr (some ⟨wz.heap.size, 0, none⟩) q q wz.heap.size 0 (fun i => .int .i64 (It0 i % ((S : Int) + 1))) :=
                    ⟨fun i wx h1 h2 => by rw [indexAt_one (t := 28) (e := 3) (by kernel_rfl) (by kernel_rfl) (fun _ => by kernel_rfl) _ _ _ _ _ h1 h2, add_plain], fun i hi => by rw [Nat.zero_add, hI.cell hi]; simp [hi], fun _ => hI.lt⟩
                  clear hlt5
                  go_wp2_with (go_at_call 8; refine (read_any L S 0 q q wz.heap.size 0 (some ⟨wz.heap.size, 0, none⟩) (.slice none 0 0) (fun _ => undef) (fun i => It0 i % ((S : Int) + 1)) lat wr hst (SliceIs.nil _ _ _ _) hit (by simp [Value.ownBlock]) (fun i _ => ⟨Int.emod_nonneg _ (by omega), by have := Int.emod_lt_of_pos (It0 i) (show (0 : Int) < (S : Int) + 1 by omega); omega⟩) (by omega) (by omega)).mono ?_; rintro e w3 ⟨v, rfl, hv, ht3, hg3⟩; rw [Nat.zero_add] at hv; obtain ⟨ga, capv, g, og, hve, hva, hvc, hvo, hvs⟩ := hv.rowEv; rw [hve]; clear hve)
                  have hb3 : Below wr.heap.size wr w3 := ⟨hg3.os, hg3.tape, hg3.output, hg3.size, fun i hi => hg3.block i hi (by simp [Value.ownBlock])⟩
                  have hst3 : StoreOK w3 L S lat := hst.below hb3
                  have hM3 : Blk w3 M 2 (S + 1) (fun j => .int .i64 (lat j)) := hM5.below hb3 hM5.lt
                  have hI3 : Blk w3 wz.heap.size 3 q (fun j => .int .i64 (It0 j % ((S : Int) + 1))) := (hI.below hb3 hI.lt).congr fun j hj => by simp [hj]
                  have hbw3 : Below w.heap.size w w3 := hbw.trans (hb3.mono hbw.size)
                  clear hst hM5 hI hb3 hit hst0 hM hb5 hbw hv ht3 hg3 hvs
                  go_loopw [139] (fun i wx => ∃ l : Nat, l ≤ q ∧ i = .int .i64 l ∧ Below w3.heap.size w3 wx)
                    (fun i _ => q - (intOf i).toNat)
                  case atStart => exact ⟨0, Nat.zero_le _, rfl, Below.refl _ _⟩
                  case round =>
                    obtain ⟨l, hl, rfl, hb6⟩ := hrel
                    by_cases hlt6 : l < q
                    · have h0 := hI0 l
                      have m0 := Int.emod_nonneg (It0 l) (show (S : Int) + 1 ≠ 0 by omega)
                      have m1 := Int.emod_lt_of_pos (It0 l) (show (0 : Int) < (S : Int) + 1 by omega)
                      obtain ⟨y, hy⟩ : ∃ y : Nat, It0 l % ((S : Int) + 1) = (y : Int) := ⟨(It0 l % ((S : Int) + 1)).toNat, by omega⟩
                      have hyS : y ≤ S := by omega
                      have hyI : (y : Int) < (S : Int) + 1 := by omega
                      have hlI : (l : Int) < (q : Int) := by omega
                      have c0 : wr.cell? ⟨wz.heap.size, l, none⟩ = some (.int .i64 (y : Int)) := (hb6.cell (p := ⟨wz.heap.size, l, none⟩) hI3.lt).trans ((hI3.cell hlt6).trans (by rw [hy]))
                      have g0 : wr.cell? ⟨g, og + l * 3, none⟩ = some (.bool false) := (hb6.cell (p := ⟨g, _, none⟩) (hvo (by omega))).trans ((hvc (l * 3) (by omega)).trans (by rw [rd0_at0]))
                      have g1 : wr.cell? ⟨g, og + l * 3 + 1, none⟩ = some (.int .i64 (y : Int)) := (hb6.cell (p := ⟨g, _, none⟩) (hvo (by omega))).trans (by rw [Nat.add_assoc]; exact (hvc (l * 3 + 1) (by omega)).trans (by rw [rd0_at1, hy]))
                      have g2 : ∀ wx, Below w3.heap.size w3 wx → wx.cell? ⟨g, og + l * 3 + 2, none⟩ = some (.int .i64 (lat y)) := fun wx hbx => (hbx.cell (p := ⟨g, _, none⟩) (hvo (by omega))).trans (by rw [Nat.add_assoc]; exact (hvc (l * 3 + 2) (by omega)).trans (by rw [rd0_at2, hy, Int.toNat_natCast]))
                      have g2r := g2 wr hb6
                      have mm : wr.cell? ⟨M, y, none⟩ = some (.int .i64 (lat y)) := (hb6.cell (p := ⟨M, y, none⟩) hM3.lt).trans (hM3.cell (by omega))
                      have hst6 : StoreOK wr L S lat := hst3.below hb6
                      obtain ⟨_, K6, sk, ck, _, k3, hitem⟩ := hst6
                      obtain ⟨B6, o6, m6, cq, vq, nm6, _, _, hm6, _, k4, k5, k6, k7⟩ := hitem y hyS
                      have cl : ∀ nq, Calls Yba.prog 10 #[.pointer (some ⟨L, 0, none⟩), .int .i64 (y : Int)] (wr.drewN nq) fun e w' => e = .returned (.tuple #[.int .i64 (lat y), .int .i64 vq]) ∧ Below (wr.drewN nq).heap.size (wr.drewN nq) w' := fun nq =>
                        latest10 L K6 B6 o6 m6 cq (S + 1) (S + 1) (y : Int) vq (lat y) nm6 (wr.drewN nq) k3 (by omega) (by omega) hm6 (by rw [Int.toNat_natCast]; exact k4) k5 k6 k7
                      go_upto_region 46 with fail
                      go_quiet (fail)
                      go_wp2_with (go_at_call 10; refine (cl _).mono ?_; rintro e w7 ⟨rfl, hb7⟩; have hb8 : Below w3.heap.size w3 w7 := hb6.trans ((⟨hb7.os, hb7.tape, hb7.output, hb7.size, hb7.block⟩ : Below wr.heap.size wr w7).mono hb6.size); have g7 := g2 w7 hb8)
                      go_roundw
                      case rel => exact ⟨l + 1, by omega, by go_num, hb8⟩
                      case measure => simp [intOf]; omega
                    · go_wp2
                      go_ret
                      exact ⟨rfl, hbw3.trans (hb6.mono hbw3.size)⟩

#print axioms after_walk
end Go.Proofs.Ybulkbzcc
