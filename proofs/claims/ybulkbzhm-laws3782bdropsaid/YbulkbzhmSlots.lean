/-
  sectionSlots: grow.
-/
import Derived.Test.YbulkbzhmCh
import Derived.Deep.DeepCutAuto
import Derived.Deep.CutRange
import Derived.Deep.CutBlock
namespace Go.Proofs.Ybulkbzhm
set_option linter.unusedSectionVars false
variable [Base]
open Go.RowKit
open Go.WideShapes (add_plain)

/-- Rows of numbers stay rows of numbers. -/
def Nums (w w' : World) : Prop := ∀ g sz, U64s w g sz → U64s w' g sz

theorem Nums.refl (w : World) : Nums w w := fun _ _ h => h
theorem Nums.trans {w w1 w2 : World} (h : Nums w w1) (k : Nums w1 w2) : Nums w w2 := fun g sz hu => k g sz (h g sz hu)
theorem U64s.of_block {w w' : World} {g sz : Nat} (h : U64s w g sz) (hb : w'.heap[g]? = w.heap[g]?) : U64s w' g sz := by
  obtain ⟨x, hx⟩ := h
  exact ⟨x, hx.of_block hb⟩
theorem U64s.lt {w : World} {g sz : Nat} (h : U64s w g sz) : g < w.heap.size := by
  obtain ⟨x, hx⟩ := h
  exact hx.lt
theorem Nums.below {w w' : World} (h : Below w.heap.size w w') : Nums w w' := fun _ _ hu => hu.of_block (h.block _ hu.lt)
theorem Nums.one {w w' : World} {g sz : Nat} (h : One g w w') (h0 : U64s w g sz) (h1 : U64s w' g sz) : Nums w w' := fun k ks hu => by
  by_cases e : k = g
  · subst e
    obtain ⟨x, hx⟩ := hu
    obtain ⟨y, hy⟩ := h0
    obtain ⟨_, rfl, _⟩ := hx.size_eq hy
    exact h1
  · exact hu.of_block (h.block k e)
/-- A block of another type has turned. -/
theorem Nums.other {w w' : World} {g : Nat} {e : TypeId} {sz : Nat} {c : Nat → Value} (h : One g w w') (hb : Blk w g e sz c) (he : e ≠ 70) : Nums w w' := fun k _ hu => hu.of_block (h.block k (by
  obtain ⟨x, hx⟩ := hu
  exact hx.ne hb fun h => he h.symm))
theorem Nums.ch {E : TypeId → Prop} {w w' : World} (h : Ch E w w') (hn : ¬ E 70) : Nums w w' := fun _ _ hu => by
  obtain ⟨x, hx⟩ := hu
  exact ⟨x, h.blk hx hn⟩
theorem Nums.drewN {w w' : World} (h : Nums w w') (m : Nat) : Nums w (w'.drewN m) := fun g sz hu => (h g sz hu).of_block rfl

theorem LeastV.nums {w w' : World} {v : Value} {n : Nat} (h : LeastV w v n) (hn : Nums w w') : LeastV w' v n := by
  rcases h with h | ⟨g, c, sz, rfl, h1, h2, h3, h4⟩
  · exact .inl h
  · exact .inr ⟨g, c, sz, rfl, h1, h2, h3, hn g sz h4⟩

/-- What grow may turn. -/
def Eg (e : TypeId) : Prop := e = 104 ∨ e = 70

theorem grow42_any (v0 : Value) (lv : Nat) (w : World) (hB : Base.n ≤ w.heap.size) (h1 : 1 ≤ lv) (h2 : lv ≤ 100000) (h : v0 = .slice none 0 0 ∨ ∃ g c sz, v0 = .slice (some ⟨g, 0, none⟩) 0 c ∧ c ≤ sz ∧ c ≤ maxLen ∧ U64s w g sz) :
    Calls Yba.prog 42 #[v0, .int .i64 (lv : Int)] w fun e w' => ∃ lg c' lsz, e = .returned (.slice (some ⟨lg, 0, none⟩) 0 c') ∧ lv ≤ c' ∧ c' ≤ lsz ∧ c' ≤ maxLen ∧ U64s w' lg lsz ∧ Below w.heap.size w w' := by
  rcases h with rfl | ⟨g, c, sz, rfl, k1, k2, k3⟩
  · refine (grow42_nil lv w hB h1 h2).mono ?_
    rintro e w' ⟨c, a1, a2, rfl, a3, a4, a5⟩
    exact ⟨_, c, c, rfl, a1, Nat.le_refl _, a2, a3, a4⟩
  · by_cases hc : lv ≤ c
    · refine (grow42_room g c lv w hc (by unfold maxLen at k2; omega)).mono ?_
      rintro e w' ⟨rfl, rfl⟩
      exact ⟨g, c, sz, rfl, hc, k1, k2, k3, Below.refl _ _⟩
    · refine (grow42_some g c lv sz w k3 k1 (by omega) h2).mono ?_
      rintro e w' ⟨c', a1, a2, rfl, a3, a4, a5⟩
      exact ⟨_, c', c', rfl, a1, Nat.le_refl _, a2, a3, a4⟩

set_option maxRecDepth 100000 in
set_option maxHeartbeats 4000000 in
theorem grow_any (P o g n c sz l3 l4 : Nat) (pc xc : Nat → Value) (w : World) (hb : Blk w P 104 512 pc) (ho : o + 8 ≤ 512) (c0 : pc o = .slice (some ⟨g, 0, none⟩) n c) (h3 : LeastV w (pc (o + 3)) l3) (h4 : LeastV w (pc (o + 4)) l4)
    (arr : Blk w g 87 sz xc) (hn : n ≤ c) (hn2 : n ≤ 10000) (hc : c ≤ maxLen) (hsz : c * 6 ≤ sz) (cells : ∀ j, j < n → (∃ kd : Int, xc (j * 6 + 5) = .int .u8 kd) ∧ ∃ s : Int, xc (j * 6) = .int .u64 s) (hold : ∃ u, pc (o + 2) = .int .i64 u) :
    Calls Yba.prog 39 #[.pointer (some ⟨P, o, none⟩)] w fun e w' => e = .returned (.tuple #[]) ∧ ∃ lv pc', 1 ≤ lv ∧ n ≤ lv * 8 ∧ lv ≤ 20000 ∧ Blk w' P 104 512 pc' ∧ pc' (o + 2) = .int .i64 (lv : Int) ∧ LeastV w' (pc' (o + 3)) lv ∧ LeastV w' (pc' (o + 4)) lv ∧ (∀ j, j ≠ o + 2 → j ≠ o + 3 → j ≠ o + 4 → pc' j = pc j) ∧ Ch Eg w w' ∧ Nums w w' := by
  have zP := hb.frozen
  obtain ⟨u2, hu2⟩ := hold
  have q2 : w.cell? ⟨P, o + 2, none⟩ = some (.int .i64 u2) := (hb.cell (i := o + 2) (by omega)).trans (by rw [hu2])
  go_enter Yba.func39, Yba.ntmps39
  go_wp2
  go_loopg [] (n + 1) (fun k wr => ∃ lv : Nat, 1 ≤ lv ∧ lv ≤ n + 1 ∧ k + lv = n + 2 ∧ Blk wr P 104 512 (fun j => if j = o + 2 then .int .i64 (lv : Int) else pc j) ∧ One P w wr)
  case atStart => exact ⟨1, Nat.le_refl _, by omega, by omega, hb.set (o + 2) _, (One.refl P w).setCell (o + 2) _⟩
  case round =>
    obtain ⟨lv, hl1, hl2, hk, hb1, h1⟩ := hrel
    have q0 : wr.cell? ⟨P, o, none⟩ = some (.slice (some ⟨g, 0, none⟩) n c) := (hb1.cell (i := o) (by omega)).trans (by simp [c0])
    have q2 : wr.cell? ⟨P, o + 2, none⟩ = some (.int .i64 (lv : Int)) := (hb1.cell (i := o + 2) (by omega)).trans (by simp)
    have zP := hb1.frozen
    go_wp2_with fail
    go_quiet (fail)
    by_cases hlt : lv * 8 < n
    · have hI : (lv : Int) * 8 < (n : Int) := by omega
      go_wp2
      go_roundg (n + 2 - lv * 2)
      case measure => omega
      case rel =>
        refine ⟨lv * 2, by omega, by omega, by omega, ?_, (h1.drewN _).setCell (o + 2) _⟩
        refine ((hb1.of_block rfl : Blk (wr.drewN nq) P 104 512 _).set (o + 2) _).congr fun j _ => ?_
        by_cases e : j = o + 2 <;> simp [e]
    · have hI : decide ((lv : Int) * 8 < (n : Int)) = false := by simp; omega
      go_wp2
      have hc2 : Ch Eg w ((wr.drewN nq).alloc (.cells #[.int .u8 0, .int .u8 1] 85)) := ((Ch.one h1 hb (.inl rfl)).drewN nq).alloc _
      have hb2 : Blk ((wr.drewN nq).alloc (.cells #[.int .u8 0, .int .u8 1] 85)) P 104 512 (fun j => if j = o + 2 then .int .i64 (lv : Int) else pc j) := (hb1.of_block rfl : Blk (wr.drewN nq) P 104 512 _).alloc _
      have hsb : Blk ((wr.drewN nq).alloc (.cells #[.int .u8 0, .int .u8 1] 85)) wr.heap.size 85 2 (fun j => if j = 0 then .int .u8 0 else .int .u8 1) := Blk.new (wr.drewN nq) _ 85 hb1.room (sz := 2) rfl (fun j hj => by
        have : j = 0 ∨ j = 1 := by omega
        rcases this with rfl | rfl <;> rfl)
      have hnm : Nums w ((wr.drewN nq).alloc (.cells #[.int .u8 0, .int .u8 1] 85)) := ((Nums.other h1 hb (by decide)).drewN nq).trans (Nums.below ((Below.refl _ _).alloc (Nat.le_refl _) _))
      have hlv : lv ≤ 20000 := by omega
      have hnl : n ≤ lv * 8 := by omega
      rename_i hle
      clear h1 hb1 q0 q2 zP hle hI hlt
      generalize wr.heap.size = SB at hsb ⊢
      generalize (wr.drewN nq).alloc (.cells #[.int .u8 0, .int .u8 1] 85) = w2 at hc2 hb2 hsb hnm ⊢
      go_loopg [29] 2 (fun k i wx => ∃ (q : Nat) (pc' : Nat → Value), k + q = 2 ∧ i = .int .i64 q ∧ Blk wx P 104 512 pc' ∧ pc' (o + 2) = .int .i64 (lv : Int) ∧ LeastV wx (pc' (o + 3)) (if 1 ≤ q then lv else l3) ∧ LeastV wx (pc' (o + 4)) (if 2 ≤ q then lv else l4) ∧ (∀ j, j ≠ o + 2 → j ≠ o + 3 → j ≠ o + 4 → pc' j = pc j) ∧ Ch Eg w wx ∧ Nums w wx ∧ Blk wx SB 85 2 (fun j => if j = 0 then .int .u8 0 else .int .u8 1))
      case atStart => exact ⟨0, _, rfl, rfl, hb2, by simp, by simpa using h3.nums hnm, by simpa using h4.nums hnm, fun j j2 _ _ => by simp [j2], hc2, hnm, hsb⟩
      case round =>
        clear hb2 hc2 hsb hnm
        obtain ⟨q, pc', hq, rfl, hb, c2, hl3, hl4, hpc, hcg, hnm, hsb⟩ := hrel
        by_cases hq2 : q = 2
        · subst hq2
          go_wp2
          go_end0
          exact ⟨rfl, lv, pc', by omega, hnl, hlv, hb, c2, by simpa using hl3, by simpa using hl4, hpc, hcg, hnm⟩
        · have hqc : q = 0 ∨ q = 1 := by omega
          have hqI : (q : Int) < 2 := by omega
          have hqn : q < 2 := by omega
          have hkq : wr.cell? ⟨SB, q, none⟩ = some (.int .u8 (q : Int)) := (hsb.cell (by omega)).trans (by rcases hqc with rfl | rfl <;> rfl)
          obtain ⟨lq, hlq⟩ : ∃ lq, LeastV wr (pc' (o + 3 + q)) lq := by
            rcases hqc with rfl | rfl
            · exact ⟨_, hl3⟩
            · exact ⟨_, hl4⟩
          have qq : wr.cell? ⟨P, o + 3 + q, none⟩ = some (pc' (o + 3 + q)) := hb.cell (by omega)
          have q2 : wr.cell? ⟨P, o + 2, none⟩ = some (.int .i64 (lv : Int)) := (hb.cell (by omega)).trans (by rw [c2])
          have zP := hb.frozen
          have hlv1 : (lv : Int) ≤ 20000 := by omega
          go_upto_region 6 with fail
          go_cut [4] (fun v wx => ∃ lg c' lsz, v = .slice (some ⟨lg, 0, none⟩) lv c' ∧ lv ≤ c' ∧ c' ≤ lsz ∧ c' ≤ maxLen ∧ U64s wx lg lsz ∧ Below wr.heap.size wr wx)
          case first =>
            have fin : ∀ w', Below wr.drew.heap.size wr.drew w' → w'.cell? ⟨P, o + 2, none⟩ = some (.int .i64 (lv : Int)) := fun w' hbl => ((hb.of_block (hbl.block P hb.lt)).cell (by omega)).trans (by rw [c2])
            have hnext : ∀ wx, Below wr.drew.heap.size wr.drew wx → Below wr.heap.size wr wx := fun wx hbl => ⟨hbl.os, hbl.tape, hbl.output, hbl.size, hbl.block⟩
            rcases hlq with ⟨hv, _⟩ | ⟨g0, c0', sz0, hv, k1, k2, k3, k4⟩
            · rw [hv] at qq
              have cl := grow42_any (.slice none 0 0) lv wr.drew hb.room (by omega) (by omega) (.inl rfl)
              go_region_with (go_at_call 42; refine cl.mono ?_; rintro e wx ⟨lg, c', lsz, rfl, b1, b2, b3, b4, b5⟩; have f1 := fin wx b5)
              all_goals
                go_wp2_with fail
                go_meet
                exact ⟨lg, c', lsz, rfl, b1, b2, b3, b4, hnext _ b5⟩
            · rw [hv] at qq
              have hlqc : lq ≤ c0' := k1
              have cl := grow42_any (.slice (some ⟨g0, 0, none⟩) 0 c0') lv wr.drew hb.room (by omega) (by omega) (.inr ⟨g0, c0', sz0, rfl, k2, k3, k4.of_block rfl⟩)
              go_region_with (go_at_call 42; refine cl.mono ?_; rintro e wx ⟨lg, c', lsz, rfl, b1, b2, b3, b4, b5⟩; have f1 := fin wx b5)
              all_goals
                go_wp2_with fail
                go_meet
                exact ⟨lg, c', lsz, rfl, b1, b2, b3, b4, hnext _ b5⟩
          case rest =>
            obtain ⟨lg, c', lsz, rfl, b1, b2, b3, b4, b5⟩ := hcut
            have hbc := hb.of_block (b5.block P hb.lt)
            have zP := hbc.frozen
            have qq : wc.cell? ⟨P, o + 3 + q, none⟩ = some (pc' (o + 3 + q)) := hbc.cell (by omega)
            have q2 : wc.cell? ⟨P, o + 2, none⟩ = some (.int .i64 (lv : Int)) := (hbc.cell (by omega)).trans (by rw [c2])
            go_wp2_with fail
            have hb3 : Blk (wc.setCell ⟨P, o + 3 + q, none⟩ (.slice (some ⟨lg, 0, none⟩) lv c')) P 104 512 (fun j => if j = o + 3 + q then .slice (some ⟨lg, 0, none⟩) lv c' else pc' j) := hbc.set _ _
            have arr3 : Blk (wc.setCell ⟨P, o + 3 + q, none⟩ (.slice (some ⟨lg, 0, none⟩) lv c')) g 87 sz xc := by
              have a1 : Blk wr g 87 sz xc := hcg.blk arr (by unfold Eg; decide)
              have a2 : Blk wc g 87 sz xc := a1.of_block (b5.block g a1.lt)
              exact a2.set_other (a := ⟨P, o + 3 + q, none⟩) (a2.ne hbc (by decide)) _
            have hu3 : U64s (wc.setCell ⟨P, o + 3 + q, none⟩ (.slice (some ⟨lg, 0, none⟩) lv c')) lg lsz := by
              obtain ⟨x, hx⟩ := b4
              exact ⟨x, hx.set_other (a := ⟨P, o + 3 + q, none⟩) (hx.ne hbc (by decide)) _⟩
            have hc3 : Ch Eg w (wc.setCell ⟨P, o + 3 + q, none⟩ (.slice (some ⟨lg, 0, none⟩) lv c')) := (hcg.below b5).setCell hbc (.inl rfl) _ _
            have hn3 : Nums w (wc.setCell ⟨P, o + 3 + q, none⟩ (.slice (some ⟨lg, 0, none⟩) lv c')) := (hnm.trans (Nums.below b5)).trans (Nums.other ((One.refl P wc).setCell _ _) hbc (by decide))
            have hnw : Nums wr (wc.setCell ⟨P, o + 3 + q, none⟩ (.slice (some ⟨lg, 0, none⟩) lv c')) := (Nums.below b5).trans (Nums.other ((One.refl P wc).setCell _ _) hbc (by decide))
            have hs3 : Blk (wc.setCell ⟨P, o + 3 + q, none⟩ (.slice (some ⟨lg, 0, none⟩) lv c')) SB 85 2 (fun j => if j = 0 then .int .u8 0 else .int .u8 1) := by
              have a2 := hsb.of_block (b5.block SB hsb.lt)
              exact a2.set_other (a := ⟨P, o + 3 + q, none⟩) (a2.ne hbc (by decide)) _
            have hl3' := hl3.nums hnw
            have hl4' := hl4.nums hnw
            clear hb hsb hl3 hl4 hcg hnm hbc zP qq q2 b4 b5 hkq hnw
            generalize wc.setCell ⟨P, o + 3 + q, none⟩ (.slice (some ⟨lg, 0, none⟩) lv c') = w3 at hb3 arr3 hu3 hc3 hn3 hs3 hl3' hl4' ⊢
            obtain ⟨pd, hpd⟩ : ∃ pd : Nat → Value, pd = fun j => if j = o + 3 + q then .slice (some ⟨lg, 0, none⟩) lv c' else pc' j := ⟨_, rfl⟩
            rw [← hpd] at hb3
            have e0 : Hid (∀ j, j ≠ o + 3 + q → pd j = pc' j) := fun j j1 => by rw [hpd]; simp [j1]
            have eq : pd (o + 3 + q) = .slice (some ⟨lg, 0, none⟩) lv c' := by rw [hpd]; simp
            have f2 : pd (o + 2) = .int .i64 (lv : Int) := (e0.out (o + 2) (by omega)).trans c2
            have f0 : pd o = .slice (some ⟨g, 0, none⟩) n c := (e0.out o (by omega)).trans ((hpc o (by omega) (by omega) (by omega)).trans c0)
            have hT : TreeC w3 P o g n c sz lv q lg c' lsz pd xc := ⟨hb3, ho, f0, f2, eq, arr3, hn, by omega, by unfold maxLen at hc; omega, hsz, cells, hu3, by omega, by omega, by omega⟩
            have HPC : Hid (∀ j, j ≠ o + 2 → j ≠ o + 3 → j ≠ o + 4 → pc' j = pc j) := hpc
            have HCE : Hid (∀ (j : Nat), j < n → (∃ kd : Int, xc (j * 6 + 5) = .int .u8 kd) ∧ ∃ s : Int, xc (j * 6) = .int .u64 s) := cells
            clear hpc hpd cells
            have hlvI : (lv : Int) ≤ 20000 := by omega
            have hlz : lv ≤ lsz := by omega
            go_loopg [5] lv (fun k v wx => ∃ j : Nat, v = .int .i64 j ∧ k = j + 1 ∧ j < lv ∧ U64s wx lg lsz ∧ One lg w3 wx)
            case atStart => exact ⟨lv - 1, by rw [show ((lv - 1 : Nat) : Int) = (lv : Int) - 1 by omega], by omega, by omega, hu3, One.refl _ _⟩
            case round =>
              obtain ⟨k, rfl, rfl, hk, hu, h1⟩ := hrel
              have ht : ∀ m, TreeC (wr.drewN m) P o g n c sz lv q lg c' lsz pd xc := fun m => hT.one (h1.drewN m) (hu.of_block rfl)
              by_cases hk0 : 1 ≤ k
              · have n1 : Calls Yba.prog 41 #[.pointer (some ⟨P, o, none⟩), .int .i64 (2 * (k : Int)), .int .u8 (q : Int)] wr fun e w' => (∃ a : Int, e = .returned (.int .u64 a)) ∧ ∃ m, w' = wr.drewN m := by
                  have := node_any (hT.one h1 hu) (2 * k) (by omega)
                  simpa using this
                have n2 : ∀ m, Calls Yba.prog 41 #[.pointer (some ⟨P, o, none⟩), .int .i64 (2 * (k : Int) + 1), .int .u8 (q : Int)] (wr.drewN m) fun e w' => (∃ a : Int, e = .returned (.int .u64 a)) ∧ ∃ m', w' = (wr.drewN m).drewN m' := fun m => by
                  have := node_any (ht m) (2 * k + 1) (by omega)
                  simpa using this
                obtain ⟨x, hx⟩ := hu
                have qk : wr.cell? ⟨lg, k, none⟩ = some (.int .u64 (x k)) := hx.cell (by omega)
                have zk := hx.frozen
                have hkI : (k : Int) < (lv : Int) := by omega
                have hk1 : 1 ≤ (k : Int) := by omega
                have ek : ((k - 1 : Nat) : Int) = (k : Int) - 1 := by omega
                go_wp2_with fail
                refine n1.mono ?_
                rintro e w1 ⟨⟨a1, rfl⟩, m1, rfl⟩
                go_wp2_with fail
                refine (n2 m1).mono ?_
                rintro e w2 ⟨⟨a2, rfl⟩, m2, rfl⟩
                go_wp2
                all_goals
                  go_roundg k
                  case measure => omega
                  case rel =>
                    refine ⟨k - 1, by rw [ek], by omega, by omega, ?_, ?_⟩
                    · refine U64s.set ?_ k _
                      exact ⟨x, hx.drewN _⟩
                    · refine One.setCell ?_ k _
                      exact h1.drewN _
              · have hk00 : k = 0 := by omega
                subst hk00
                have hnn : Nums w3 wr := Nums.one h1 hu3 hu
                go_wp2
                go_roundg (1 - q)
                case measure => omega
                case rel =>
                  have hpc := HPC.out
                  obtain ⟨x3, hx3⟩ := hu3
                  have hlast : LeastV wr (.slice (some ⟨lg, 0, none⟩) lv c') lv := .inr ⟨lg, c', lsz, rfl, b1, b2, b3, hu⟩
                  refine ⟨q + 1, pd, by omega, by go_num, h1.blk hb3 (hb3.ne hx3 (by decide)), f2, ?_, ?_, fun j j2 j3 j4 => ?_, hc3.trans (Ch.one h1 hx3 (.inr rfl)), hn3.trans hnn, h1.blk hs3 (hs3.ne hx3 (by decide))⟩
                  · rcases hqc with rfl | rfl
                    · rw [show o + 3 = o + 3 + 0 by omega, eq]
                      simpa using hlast
                    · rw [e0.out (o + 3) (by omega)]
                      simpa using hl3'.nums hnn
                  · rcases hqc with rfl | rfl
                    · rw [e0.out (o + 4) (by omega)]
                      simpa using hl4'.nums hnn
                    · rw [show o + 4 = o + 3 + 1 by omega, eq]
                      simpa using hlast
                  · rw [e0.out j (by omega)]
                    exact hpc j j2 j3 j4

end Go.Proofs.Ybulkbzhm
