import Derived.Test.YbulkbzccApp2
import Derived.Test.YbulkbzccMapI
import Derived.Test.YbulkbzccLast
import Derived.Maps.AppendAt
namespace Go.Proofs.Ybulkbzcc
open Go.RowKit
open Go.WideShapes (add_plain)

theorem info32 : (Yba.prog.info? 32).map (fun i => (i.zero, i.size, i.bytes)) = some (some (.agg #[.bool false, .int .i64 0, .int .i64 0]), 3, 24) := by kernel_rfl

/-- THE LOG AT BLOCK L HOLDS n ITEMS; item i's latest version is 'lat i'. -/
def StoreOK (w : World) (L n : Nat) (lat : Nat → Int) : Prop :=
  (∃ sz c, Blk w L 75 sz c) ∧ ∃ K sk ck, Blk w K 94 sk ck ∧ w.cell? ⟨L, 3, none⟩ = some (.slice (some ⟨K, 0, none⟩) (n + 1) (n + 1)) ∧
    ∀ i, i ≤ n → ∃ B o m c v num sB cB, m < 4611686018427387904 ∧ Blk w B 79 sB cB ∧ w.cell? ⟨K, i, none⟩ = some (.slice (some ⟨B, o, none⟩) (m + 1) c) ∧
      w.cell? ⟨B, o + m * 3, none⟩ = some (.int .i64 v) ∧ w.cell? ⟨B, o + m * 3 + 1, none⟩ = some (.int .i64 (lat i)) ∧ w.cell? ⟨B, o + m * 3 + 2, none⟩ = some (.int .i64 num)

theorem StoreOK.of_blocks {w w' : World} {L n : Nat} {lat : Nat → Int} (h : StoreOK w L n lat) (hb : ∀ g e sz c, Blk w g e sz c → (e = 75 ∨ e = 94 ∨ e = 79) → w'.heap[g]? = w.heap[g]?) : StoreOK w' L n lat := by
  obtain ⟨⟨sL, cL, hL⟩, K, sk, ck, hK, hk, hi⟩ := h
  have bL := hb L 75 sL cL hL (by simp)
  have bK := hb K 94 sk ck hK (by simp)
  refine ⟨⟨sL, cL, hL.of_block bL⟩, K, sk, ck, hK.of_block bK, (World.cell?_of_block (a := ⟨L, 3, none⟩) bL).trans hk, fun i hn => ?_⟩
  obtain ⟨B, o, m, c, v, num, sB, cB, h1, h2, h3, h4, h5, h6⟩ := hi i hn
  have bB := hb B 79 sB cB h2 (by simp)
  exact ⟨B, o, m, c, v, num, sB, cB, h1, h2.of_block bB, (World.cell?_of_block (a := ⟨K, i, none⟩) bK).trans h3, (World.cell?_of_block (a := ⟨B, _, none⟩) bB).trans h4, (World.cell?_of_block (a := ⟨B, _, none⟩) bB).trans h5, (World.cell?_of_block (a := ⟨B, _, none⟩) bB).trans h6⟩

/-- .. whatever is written into rows of another type. -/
theorem StoreOK.kept {w w' : World} {L n : Nat} {lat : Nat → Int} (h : StoreOK w L n lat) {row : Option Nat} (hg : w.grownBy w' row) (hr : ∀ g, row = some g → ∃ sz c, Blk w g 32 sz c) : StoreOK w' L n lat :=
  h.of_blocks fun g e sz c hb he => hg.block g hb.lt fun hc => by
    obtain ⟨sz', c', hb'⟩ := hr g hc.symm
    have := (hb.size_eq hb').1
    rcases he with rfl | rfl | rfl <;> exact absurd this (by decide)

/-- The cells of the events of reading the first k items. -/
def readCell (It : Nat → Int) (lat : Nat → Int) (j : Nat) : Value :=
  if j % 3 = 0 then .bool false else if j % 3 = 1 then .int .i64 (It (j / 3)) else .int .i64 (lat (It (j / 3)).toNat)

/-- The cells of t's events and of the reads behind them. -/
def withReads (n0 : Nat) (x : Nat → Value) (It : Nat → Int) (lat : Nat → Int) (j : Nat) : Value := if j < n0 * 3 then x j else readCell It lat (j - n0 * 3)

theorem withReads_step (n0 k : Nat) (x : Nat → Value) (It : Nat → Int) (lat : Nat → Int) (nw : Nat → Value) (h0 : nw 0 = .bool false) (h1 : nw 1 = .int .i64 (It k)) (h2 : nw 2 = .int .i64 (lat (It k).toNat)) (j : Nat) (hj : j < (n0 + k + 1) * 3) :
    (if j < (n0 + k) * 3 then withReads n0 x It lat j else nw (j - (n0 + k) * 3)) = withReads n0 x It lat j := by
  by_cases h : j < (n0 + k) * 3
  · simp [h]
  · have hd : (j - n0 * 3) / 3 = k := by omega
    have hc : j = (n0 + k) * 3 ∨ j = (n0 + k) * 3 + 1 ∨ j = (n0 + k) * 3 + 2 := by omega
    have hn : ¬ j < n0 * 3 := by omega
    simp only [h, hn, if_false, withReads, readCell, hd]
    rcases hc with rfl | rfl | rfl
    · have : ((n0 + k) * 3 - n0 * 3) % 3 = 0 := by omega
      simp [this, h0]
    · have : ((n0 + k) * 3 + 1 - n0 * 3) % 3 = 1 := by omega
      simp [this, h1]
    · have : ((n0 + k) * 3 + 2 - n0 * 3) % 3 = 2 := by omega
      simp [this, h2]

/-- A new block of three cells. -/
def three (a b c : Value) (j : Nat) : Value := if j = 0 then a else if j = 1 then b else c

theorem three_new (w : World) (a b c : Value) (t : TypeId) : ∀ j, j < 3 → (w.alloc (.cells #[a, b, c] t)).cell? ((⟨w.heap.size, 0, none⟩ : Addr).add j) = some (three a b c j) := by
  intro j hj
  have : j = 0 ∨ j = 1 ∨ j = 2 := by omega
  rcases this with rfl | rfl | rfl <;> simp [add_plain, three]

theorem three_cell {a b c : Value} (ha : a.oneCell' = true) (hb : b.oneCell' = true) (hc : c.oneCell' = true) : ∀ j, j < 3 → (three a b c j).oneCell' = true := by
  intro j hj
  have : j = 0 ∨ j = 1 ∨ j = 2 := by omega
  rcases this with rfl | rfl | rfl <;> simp [three, ha, hb, hc]

set_option maxRecDepth 100000 in
set_option maxHeartbeats 1000000 in
theorem read_any (L n n0 m c ib io : Nat) (ia : Option Addr) (t : Value) (x : Nat → Value) (It : Nat → Int) (lat : Nat → Int) (w : World) (hst : StoreOK w L n lat) (ht : SliceIs w 32 3 t n0 x)
    (hit : RowIs Yba.prog 28 w ia m c ib io (fun i => .int .i64 (It i))) (hib : 0 < m → some ib ≠ t.ownBlock) (hrg : ∀ i, i < m → 0 ≤ It i ∧ It i ≤ n) (hm : m ≤ 1000000) (hn0 : n0 ≤ 1000000) :
    Calls Yba.prog 8 #[.pointer (some ⟨L, 0, none⟩), t, .slice ia m c] w fun e w' => ∃ v, e = .returned v ∧ SliceIs w' 32 3 v (n0 + m) (withReads n0 x It lat) ∧ SliceIs w' 32 3 t n0 x ∧ w.grownBy w' t.ownBlock := by
  obtain ⟨hia, hic, hio⟩ := hit
  have HX := Ext.refl ht w.heap.size
  go_enter Yba.func8, Yba.ntmps8
  go_wp2
  go_loopw [1, 11] (fun v i wr => ∃ k : Nat, k ≤ m ∧ i = .int .i64 k ∧ SliceIs wr 32 3 v (n0 + k) (withReads n0 x It lat) ∧ SliceIs wr 32 3 t n0 x ∧ w.grownBy wr t.ownBlock ∧ Ext w.heap.size t n0 v (n0 + k))
    (fun _ i _ => m - (intOf i).toNat)
  case atStart => exact ⟨0, Nat.zero_le _, rfl, ht.congr (fun j hj => by simp [withReads, hj]), ht, World.grownBy.refl _ _, HX⟩
  case round =>
    obtain ⟨k, hk, rfl, hv, ht1, hg, hx⟩ := hrel
    by_cases hlt : k < m
    · have hick : wr.cell? ⟨ib, io + k, none⟩ = some (.int .i64 (It k)) := hg.cell (hic k hlt) (hib (by omega))
      have hst1 : StoreOK wr L n lat := hst.kept hg fun g hgt => ht.typed hgt
      have hr0 := (hrg k hlt).1
      have hr1 := (hrg k hlt).2
      obtain ⟨_, K, sk, ck, _, hk3, hitem⟩ := hst1
      obtain ⟨B, o, q, cq, vq, num, _, _, hq, _, k1, k2, k3, k4⟩ := hitem (It k).toNat (by omega)
      go_wp2_with (first
        | (go_at_call 17; refine (latest_any L K B o q cq (n + 1) (n + 1) (It k) vq (lat (It k).toNat) num _ hk3 hr0 (by omega) hq k1 k2 k3 k4).mono ?_; rintro e w1 ⟨rfl, hb1⟩)
        | (at_builtin; refine wpList_append1 _ rfl _ _ 29 rfl 32 Yba.underlying29 info32 rfl _ (n0 + k) _ rfl ((hv.below hb1).alloc _) ⟨w1.heap.size, 0, none⟩ _ (three (.bool false) (.int .i64 (It k)) (.int .i64 (lat (It k).toNat))) rfl (three_new _ _ _ _ _) (three_cell rfl rfl rfl) (by omega) (by unfold maxLen; omega) ?_; intro v2 w2 hap))
      go_roundw
      case rel =>
        have hsz : w.heap.size ≤ w1.heap.size := Nat.le_trans hg.size hb1.size
        have hg1 : w.grownBy (w1.alloc (.cells #[.bool false, .int .i64 (It k), .int .i64 (lat (It k).toNat)] 32)) t.ownBlock := (hg.trans (below_grown hb1 _)).trans (World.grownBy_alloc _ _ _)
        refine ⟨k + 1, by omega, by go_num, ?_, ?_, hx.frame hap hg1, hx.ap (by simp; omega) hap⟩
        · exact (((hv.below hb1).alloc _).ap hap).congr fun j hj => withReads_step n0 k x It lat _ rfl rfl rfl j hj
        · exact hx.keeps hap ((ht1.below hb1).alloc _) fun g hgt => ht.lt hgt
      case measure => simp [intOf]; omega
    · have hkm : k = m := by omega
      subst hkm
      go_wp2
      go_ret
      exact ⟨_, rfl, hv, ht1, hg⟩
end Go.Proofs.Ybulkbzcc
