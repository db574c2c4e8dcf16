import Derived.Test.YbulkbzccRead
import Derived.Test.YbulkbzccCopy
import Derived.Test.YbulkbzccNewLog
import Derived.Test.YbulkbzccOpen
import Derived.BigQuiet
import Derived.Deep.QuietTactic
namespace Go.Proofs.Ybulkbzcc
open Go.RowKit
open Go.WideShapes (add_plain)

/-- The cells of a slice of events. -/
def evCell (Pb : Nat → Bool) (Pi Pv : Nat → Int) (j : Nat) : Value := if j % 3 = 0 then .bool (Pb (j / 3)) else if j % 3 = 1 then .int .i64 (Pi (j / 3)) else .int .i64 (Pv (j / 3))

/-- A SLICE OF EVENTS THAT CAME IN. -/
structure RowEv (w : World) (t : TypeId) (a : Option Addr) (len cap b off : Nat) (x : Nat → Value) : Prop where
  at_ : ∀ (i : Int) (wx : World), 0 ≤ i → i < (len : Int) → (Instr.indexAt t (.slice a len cap) (.int .i64 i)).run Yba.prog wx = .ok (.pointer (some ⟨b, off + i.toNat * 3, none⟩)) wx
  cell : ∀ j, j < len * 3 → w.cell? ⟨b, off + j, none⟩ = some (x j)
  old : 0 < len → b < w.heap.size
  src : len = 0 ∨ ∃ a', a = some a' ∧ ∀ j, j < len * 3 → w.cell? (a'.add j) = some (x j)

theorem indexAt_three {t : TypeId} (ht : Yba.prog.underlying t = some (.slice (Yba.prog.elem t))) (he : Yba.prog.elem t = 32) (a : Addr) (len cap : Nat) (i : Int) (wx : World) (h0 : 0 ≤ i) (h1 : i < (len : Int)) :
    (Instr.indexAt t (.slice (some a) len cap) (.int .i64 i)).run Yba.prog wx = .ok (.pointer (some (a.add (i.toNat * 3)))) wx := by
  have hs : (sizeOf 32).run Yba.prog wx = .ok 3 wx := by kernel_rfl
  rw [run_indexAt_slice _ _ _ _ _ _ _ ht, if_pos ⟨h0, h1⟩, he, hs]
  simp [Result.andThen]

theorem SliceIs.rowEv {w : World} {v : Value} {n : Nat} {x : Nat → Value} (h : SliceIs w 32 3 v n x) : ∃ ga cap g o, v = .slice ga n cap ∧ RowEv w 29 ga n cap g o x := by
  rcases h with ⟨rfl, rfl⟩ | ⟨g, o, cap, sz, c, rfl, h2, h3, h4, h5, h6⟩
  · exact ⟨none, 0, 0, 0, rfl, fun i wx h0 h1 => absurd h1 (by simp; omega), fun j hj => absurd hj (by omega), fun h => absurd h (by omega), .inl rfl⟩
  · have e : ∀ j, j < n * 3 → w.cell? ⟨g, o + j, none⟩ = some (x j) := fun j hj => by rw [h4.cell (by omega), h6 j hj]
    exact ⟨some ⟨g, o, none⟩, cap, g, o, rfl, fun i wx h0 h1 => by rw [indexAt_three (t := 29) (by kernel_rfl) (by kernel_rfl) _ _ _ _ _ h0 h1, add_plain], e, fun _ => h4.lt, .inr ⟨_, rfl, fun j hj => by rw [add_plain]; exact e j hj⟩⟩

theorem FreshLog.store {w : World} {B L n : Nat} (h : FreshLog w B L n) : StoreOK w L n (fun i => (i : Int)) := by
  obtain ⟨K, F, O, G, _, _, _, _, _, hL, hK, hF, _, _⟩ := h
  refine ⟨⟨_, _, Blk.of_row hL⟩, K, _, _, hK, ?_, fun i hi => ⟨F, i * 3, 0, 1, 0, 1, _, _, by decide, hF, ?_, ?_, ?_, ?_⟩⟩
  · rw [cell_of_row _ _ _ _ _ _ hL]; rfl
  · rw [hK.cell (by omega)]; simp [keptCell]; omega
  · rw [hF.cell (by omega)]
    simp [firstCell]
  · rw [hF.cell (by omega)]
    have a1 : (i * 3 + 0 * 3 + 1) / 3 = i := by omega
    have a2 : (i * 3 + 0 * 3 + 1) % 3 = 1 := by omega
    have a3 : i < n + 1 := by omega
    simp only [firstCell, a1, a2, a3, if_true]
  · rw [hF.cell (by omega)]
    have a1 : (i * 3 + 0 * 3 + 2) / 3 = i := by omega
    have a2 : (i * 3 + 0 * 3 + 2) % 3 = 2 := by omega
    have a3 : i < n + 1 := by omega
    simp [firstCell, a1, a2, a3]

theorem StoreOK.below {w w' : World} {L n : Nat} {lat : Nat → Int} (h : StoreOK w L n lat) (hb : Below w.heap.size w w') : StoreOK w' L n lat :=
  h.of_blocks fun g _ _ _ hbk _ => hb.block g hbk.lt

theorem size32 : (Yba.prog.info? 32).map (·.size) = some 3 := by kernel_rfl

theorem ev_one (Pb : Nat → Bool) (Pi Pv : Nat → Int) (j : Nat) : (evCell Pb Pi Pv j).oneCell' = true := by
  unfold evCell
  split
  · rfl
  · split <;> rfl

theorem ev_is0 (Pb : Nat → Bool) (Pi Pv : Nat → Int) (j : Nat) : some (evCell Pb Pi Pv (j * 3)) = some (.bool (Pb j)) := by
  have a1 : j * 3 / 3 = j := by omega
  have a2 : j * 3 % 3 = 0 := by omega
  simp [evCell, a2, a1]
theorem ev_is1 (Pb : Nat → Bool) (Pi Pv : Nat → Int) (j : Nat) : some (evCell Pb Pi Pv (j * 3 + 1)) = some (.int .i64 (Pi j)) := by
  have a1 : (j * 3 + 1) / 3 = j := by omega
  have a2 : (j * 3 + 1) % 3 = 1 := by omega
  simp [evCell, a2, a1]
theorem ev_is2 (Pb : Nat → Bool) (Pi Pv : Nat → Int) (j : Nat) : some (evCell Pb Pi Pv (j * 3 + 2)) = some (.int .i64 (Pv j)) := by
  have a1 : (j * 3 + 2) / 3 = j := by omega
  have a2 : (j * 3 + 2) % 3 = 2 := by omega
  simp [evCell, a2, a1]
theorem ev_at0 {np j : Nat} {Pb : Nat → Bool} {Pi Pv It lat : Nat → Int} (h : j < np) : some (withReads np (evCell Pb Pi Pv) It lat (j * 3)) = some (.bool (Pb j)) := by
  have : j * 3 < np * 3 := by omega
  simp only [withReads, this, if_true]
  exact ev_is0 _ _ _ _
theorem ev_at1 {np j : Nat} {Pb : Nat → Bool} {Pi Pv It lat : Nat → Int} (h : j < np) : some (withReads np (evCell Pb Pi Pv) It lat (j * 3 + 1)) = some (.int .i64 (Pi j)) := by
  have : j * 3 + 1 < np * 3 := by omega
  simp only [withReads, this, if_true]
  exact ev_is1 _ _ _ _
theorem ev_at2 {np j : Nat} {Pb : Nat → Bool} {Pi Pv It lat : Nat → Int} (h : j < np) : some (withReads np (evCell Pb Pi Pv) It lat (j * 3 + 2)) = some (.int .i64 (Pv j)) := by
  have : j * 3 + 2 < np * 3 := by omega
  simp only [withReads, this, if_true]
  exact ev_is2 _ _ _ _

theorem rd_at0 {np j : Nat} {x : Nat → Value} {It lat : Nat → Int} : some (withReads np x It lat ((np + j) * 3)) = some (.bool false) := by
  have h : ¬ (np + j) * 3 < np * 3 := by omega
  have a2 : ((np + j) * 3 - np * 3) % 3 = 0 := by omega
  simp only [withReads, h, if_false, readCell, a2, if_true]
theorem rd_at1 {np j : Nat} {x : Nat → Value} {It lat : Nat → Int} : some (withReads np x It lat ((np + j) * 3 + 1)) = some (.int .i64 (It j)) := by
  have h : ¬ (np + j) * 3 + 1 < np * 3 := by omega
  have a1 : ((np + j) * 3 + 1 - np * 3) / 3 = j := by omega
  have a2 : ((np + j) * 3 + 1 - np * 3) % 3 = 1 := by omega
  simp only [withReads, h, if_false, readCell, a2, a1]
  rfl
theorem rd_at2 {np j : Nat} {x : Nat → Value} {It : Nat → Int} (h0 : 0 ≤ It j) : some (withReads np x It (fun i => (i : Int)) ((np + j) * 3 + 2)) = some (.int .i64 (It j)) := by
  have h : ¬ (np + j) * 3 + 2 < np * 3 := by omega
  have a1 : ((np + j) * 3 + 2 - np * 3) / 3 = j := by omega
  have a2 : ((np + j) * 3 + 2 - np * 3) % 3 = 2 := by omega
  have a3 : ((It j).toNat : Int) = It j := by omega
  simp only [withReads, h, if_false, readCell, a2, a1, a3]
  rfl

theorem src_later {w w1 : World} {o : Obj} {T : Obj} {len : Nat} {a : Option Addr} {x : Nat → Value} (h : len = 0 ∨ ∃ a', a = some a' ∧ ∀ j, j < len * 3 → w.cell? (a'.add j) = some (x j)) (hb : Below (w.alloc o).heap.size (w.alloc o) w1) :
    len = 0 ∨ ∃ a', a = some a' ∧ ∀ j, j < len * 3 → (w1.alloc T).cell? (a'.add j) = some (x j) := by
  rcases h with h | ⟨a', rfl, hc⟩
  · exact .inl h
  · refine .inr ⟨a', rfl, fun j hj => ?_⟩
    have h0 := hc j hj
    have hlt := World.block_lt_of_cell? _ _ h0
    have hz := hb.size
    simp at hz
    rw [World.cell?_of_block (Below.heap_alloc w1 T _ (by omega)), World.cell?_of_block (hb.block _ (by simp; omega)), World.cell?_of_block (Below.heap_alloc w o _ hlt)]
    exact h0

set_option maxRecDepth 100000 in
set_option maxHeartbeats 2000000 in
theorem fresh_walk (N0 : Int) (np cp pb po ni ci ib io : Nat) (ap ai : Option Addr) (Pb : Nat → Bool) (Pi Pv It0 : Nat → Int) (w : World) (hN0 : 0 ≤ N0) (hN1 : N0 ≤ 65535)
    (hp : RowEv w 23 ap np cp pb po (evCell Pb Pi Pv)) (hi : RowIs Yba.prog 24 w ai ni ci ib io (fun k => .int .u16 (It0 k))) (hI0 : ∀ k, 0 ≤ It0 k) (hI1 : ∀ k, It0 k ≤ 65535) (hnp : np ≤ 1024) (hni : ni ≤ 1024) :
    Calls Yba.prog 3 #[.int .u16 N0, .slice ap np cp, .slice ai ni ci] w fun e w' => e = .returned (.bool true) ∧ Below w.heap.size w w' := by
  obtain ⟨hpa, hpc, hpo, hps⟩ := hp
  obtain ⟨hia, hic, hio⟩ := hi
  obtain ⟨S, hS⟩ : ∃ S : Nat, 1 + N0 % 300 = (S : Int) := ⟨(1 + N0 % 300).toNat, by omega⟩
  have hS0 : 1 ≤ S := by omega
  have hS1 : S ≤ 300 := by omega
  obtain ⟨curB, sB, cB, hmB⟩ := make_one Yba.underlying28 info3 rfl S (by omega) (by omega)
  obtain ⟨curI, sI, cI, hmI⟩ := make_one Yba.underlying28 info3 rfl ni (by omega) (by omega)
  obtain ⟨curT, sT, cT, hmT⟩ := make_three Yba.underlying29 info32 np (by omega) (by omega)
  have hd1 : decide ((1024 : Int) < (np : Int)) = false := by simp; omega
  have hd2 : decide ((1024 : Int) < (ni : Int)) = false := by simp; omega
  go_enter Yba.func3, Yba.ntmps3
  go_wp2_with (first
    | (go_at_call 7; refine (newLog_any w.heap.size S _ (Blk.new w curB 3 sB cB) (by omega)).mono ?_; rintro e w1 ⟨L, rfl, hlog, hb1⟩; have hz1 : w.heap.size + 1 ≤ w1.heap.size := (by simpa using hb1.size))
    | (refine wpList_copy_full _ rfl (.tmp 35) (.tmp 36) 29 23 rfl 32 32 Yba.underlying29 size32 w1.heap.size np np cp ap _ (evCell Pb Pi Pv) rfl rfl (Blk.new w1 curT 32 sT cT) ?_ (fun j _ => ev_one Pb Pi Pv j) ?_; (exact src_later hps hb1); intro w2 hT2 hg2 hz2))
  have hW12 : Below w1.heap.size w1 w2 := ⟨hg2.os, hg2.tape, hg2.output, by have := hg2.size; simp at this; omega, fun k hk => (hg2.block k (by simp; omega) (by simp; omega)).trans (Below.heap_alloc _ _ _ hk)⟩
  have hW1 : Below w.heap.size w w1 := ((Below.refl _ _).alloc (Nat.le_refl _) _).trans (hb1.mono (by simp))
  have hW2 : Below w.heap.size w w2 := hW1.trans (hW12.mono (by omega))
  have hz2' : w2.heap.size = w1.heap.size + 1 := by simpa using hz2
  go_loopw [43] (fun i wr => ∃ k : Nat, k ≤ ni ∧ i = .int .i64 k ∧ Blk wr (w1.heap.size + 1) 3 ni (fun j => .int .i64 (if j < k then It0 j % ((S : Int) + 1) else 0)) ∧ Below (w1.heap.size + 1) w2 wr ∧ wr.heap.size = w1.heap.size + 1 + 1)
    (fun i _ => ni - (intOf i).toNat)
  case atStart => exact ⟨0, Nat.zero_le _, rfl, Blk.new_at _ _ _ hz2'.symm sI (fun j hj => by rw [cI j hj]; simp), (Below.refl _ _).alloc (by omega) _, by simp [hz2']⟩
  case round =>
    obtain ⟨k, hk, rfl, hI, hbr, hzr⟩ := hrel
    by_cases hlt : k < ni
    · have hick : wr.cell? ⟨ib, io + k, none⟩ = some (.int .u16 (It0 k)) := (hbr.cell (p := ⟨ib, io + k, none⟩) (by have := hio (by omega); simp; omega)).trans ((hW2.cell (p := ⟨ib, io + k, none⟩) (hio (by omega))).trans (hic k hlt))
      have h0 := hI0 k
      have h1 := hI1 k
      have hz : wr.cell? ⟨w1.heap.size + 1, k, none⟩ = some (.int .i64 0) := by rw [hI.cell hlt]; simp
      have hfz := hI.frozen k
      go_wp2
      go_roundw
      case rel => exact ⟨k + 1, by omega, by go_num, (hI.set k _).congr (fun j hj => by
          by_cases e : j = k
          · subst e; simp
          · have : (j < k + 1) ↔ (j < k) := by omega
            simp [e, this]), hbr.setCell (by simp) _, by simp [hzr]⟩
      case measure => simp [intOf]; omega
    · have hkn : k = ni := by omega
      subst hkn
      have hbr2 : Below w2.heap.size w2 wr := by rw [hz2']; exact hbr
      have hst : StoreOK wr L S (fun i => (i : Int)) := (hlog.store.below hW12).below hbr2
      have ht : SliceIs wr 32 3 (.slice (some ⟨w1.heap.size, 0, none⟩) np np) np (evCell Pb Pi Pv) := SliceIs.of_blk (hT2.below hbr (by omega)) (by unfold maxLen; omega) (Nat.le_refl _)
      have hit : RowIs Yba.prog 28 wr (some ⟨w1.heap.size + 1, 0, none⟩) k k (w1.heap.size + 1) 0 (fun i => .int .i64 (It0 i % ((S : Int) + 1))) :=
        ⟨fun i wx h1 h2 => by rw [indexAt_one (t := 28) (e := 3) (by kernel_rfl) (by kernel_rfl) (fun _ => by kernel_rfl) _ _ _ _ _ h1 h2, add_plain], fun i hi => by rw [Nat.zero_add, hI.cell hi]; simp [hi], fun _ => by omega⟩
      go_wp2_with (go_at_call 8; refine (read_any L S np k k (w1.heap.size + 1) 0 (some ⟨w1.heap.size + 1, 0, none⟩) (.slice (some ⟨w1.heap.size, 0, none⟩) np np) (evCell Pb Pi Pv) (fun i => It0 i % ((S : Int) + 1)) (fun i => (i : Int)) wr hst ht hit (by simp [Value.ownBlock]) (fun i _ => ⟨Int.emod_nonneg _ (by omega), by have := Int.emod_lt_of_pos (It0 i) (show (0 : Int) < (S : Int) + 1 by omega); omega⟩) (by omega) (by omega)).mono ?_; rintro e w3 ⟨v, rfl, hv, ht3, hg3⟩; obtain ⟨ga, capv, g, og, hve, hva, hvc, hvo, hvs⟩ := hv.rowEv; rw [hve]; clear hve)
      have hW3 : Below w.heap.size w w3 := by
        have h1 : Below w.heap.size wr w3 := ⟨hg3.os, hg3.tape, hg3.output, hg3.size, fun i hi => hg3.block i (by omega) (by simp [Value.ownBlock]; omega)⟩
        exact (hW2.trans (hbr.mono (by omega))).trans h1
      have hI3 : ∀ j, j < k → w3.cell? ⟨w1.heap.size + 1, j, none⟩ = some (.int .i64 (It0 j % ((S : Int) + 1))) := fun j hj => by
        rw [World.cell?_of_block (w := wr) (hg3.block _ (by dsimp only; omega) (by simp [Value.ownBlock])), hI.cell hj]
        simp [hj]
      go_loopw [71] (fun i wx => ∃ j q : Nat, j ≤ np ∧ i = .int .i64 j ∧ wx = w3.drewN q)
        (fun i _ => np - (intOf i).toNat)
      case atStart => exact ⟨0, 0, Nat.zero_le _, rfl, rfl⟩
      case round =>
        obtain ⟨j, q, hj, rfl, rfl⟩ := hrel
        by_cases hlt2 : j < np
        · have hlt3 : (j : Int) < (np : Int) + (k : Int) := by omega
          have hlt4 : (j : Int) < (np : Int) := by omega
          have g0 : w3.cell? ⟨g, og + j * 3, none⟩ = some (.bool (Pb j)) := by rw [hvc (j * 3) (by omega)]; exact ev_at0 (by omega)
          have g1 : w3.cell? ⟨g, og + j * 3 + 1, none⟩ = some (.int .i64 (Pi j)) := by rw [Nat.add_assoc, hvc (j * 3 + 1) (by omega)]; exact ev_at1 (by omega)
          have g2 : w3.cell? ⟨g, og + j * 3 + 2, none⟩ = some (.int .i64 (Pv j)) := by rw [Nat.add_assoc, hvc (j * 3 + 2) (by omega)]; exact ev_at2 (by omega)
          have p0 : w3.cell? ⟨pb, po + j * 3, none⟩ = some (.bool (Pb j)) := by rw [hW3.cell (p := ⟨pb, _, none⟩) (hpo (by omega)), hpc (j * 3) (by omega)]; exact ev_is0 _ _ _ _
          have p1 : w3.cell? ⟨pb, po + j * 3 + 1, none⟩ = some (.int .i64 (Pi j)) := by rw [hW3.cell (p := ⟨pb, _, none⟩) (hpo (by omega)), Nat.add_assoc, hpc (j * 3 + 1) (by omega)]; exact ev_is1 _ _ _ _
          have p2 : w3.cell? ⟨pb, po + j * 3 + 2, none⟩ = some (.int .i64 (Pv j)) := by rw [hW3.cell (p := ⟨pb, _, none⟩) (hpo (by omega)), Nat.add_assoc, hpc (j * 3 + 2) (by omega)]; exact ev_is2 _ _ _ _
          have t0 : w3.cell? ⟨w1.heap.size, j * 3, none⟩ = some (.bool (Pb j)) := by have := ht3.cell (j := j * 3) (by omega); rw [Nat.zero_add] at this; rw [this]; exact ev_is0 _ _ _ _
          have t1 : w3.cell? ⟨w1.heap.size, j * 3 + 1, none⟩ = some (.int .i64 (Pi j)) := by have := ht3.cell (j := j * 3 + 1) (by omega); rw [Nat.zero_add] at this; rw [this]; exact ev_is1 _ _ _ _
          have t2 : w3.cell? ⟨w1.heap.size, j * 3 + 2, none⟩ = some (.int .i64 (Pv j)) := by have := ht3.cell (j := j * 3 + 2) (by omega); rw [Nat.zero_add] at this; rw [this]; exact ev_is2 _ _ _ _
          clear hvc hI3
          go_wp2
          go_quiet (fail)
          go_wp2
          go_roundw
          case rel => exact ⟨j + 1, _, by omega, by go_num, rfl⟩
          case measure => simp [intOf]; omega
        · have hjn : j = np := by omega
          subst hjn
          clear hlt2
          go_wp2
          go_loopw [97] (fun i wx => ∃ l : Nat, l ≤ k ∧ i = .int .i64 l ∧ wx = w3.drewN q)
            (fun i _ => k - (intOf i).toNat)
          case atStart => exact ⟨0, Nat.zero_le _, rfl, rfl⟩
          case round =>
            obtain ⟨l, hl, rfl, rfl⟩ := hrel
            by_cases hlt2 : l < k
            · have hltk : (l : Int) < (k : Int) := by omega
              have i0 := hI3 l hlt2
              have q0 : w3.cell? ⟨ib, io + l, none⟩ = some (.int .u16 (It0 l)) := (hW3.cell (p := ⟨ib, io + l, none⟩) (hio (by omega))).trans (hic l hlt2)
              have u0 := hI0 l
              have u1 := hI1 l
              have hlt3 : (j : Int) + (l : Int) < (j : Int) + (k : Int) := by omega
              have hlt5 : 0 ≤ (j : Int) + (l : Int) := by omega
              have m0 := Int.emod_nonneg (It0 l) (show (S : Int) + 1 ≠ 0 by omega)
              have m1 := Int.emod_lt_of_pos (It0 l) (show (0 : Int) < (S : Int) + 1 by omega)
              have g0 : w3.cell? ⟨g, og + (j + l) * 3, none⟩ = some (.bool false) := by rw [hvc _ (by omega)]; exact rd_at0
              have g1 : w3.cell? ⟨g, og + (j + l) * 3 + 1, none⟩ = some (.int .i64 (It0 l % ((S : Int) + 1))) := by rw [Nat.add_assoc, hvc _ (by omega)]; exact rd_at1
              have g2 : w3.cell? ⟨g, og + (j + l) * 3 + 2, none⟩ = some (.int .i64 (It0 l % ((S : Int) + 1))) := by rw [Nat.add_assoc, hvc _ (by omega)]; exact rd_at2 m0
              clear hvc hI3
              go_wp2
              go_roundw
              case rel => exact ⟨l + 1, by omega, by go_num, by first | rfl | trivial⟩
              case measure => simp [intOf]; omega
            · go_wp2
              go_ret
              exact ⟨rfl, hW3.trans ⟨rfl, rfl, rfl, Nat.le_refl _, fun _ _ => rfl⟩⟩
end Go.Proofs.Ybulkbzcc
