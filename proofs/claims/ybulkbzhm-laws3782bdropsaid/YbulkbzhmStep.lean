/-
  How the holds and the locks turn.
-/
import Derived.Test.YbulkbzhmHold
namespace Go.Proofs.Ybulkbzhm
set_option linter.unusedSectionVars false
variable [Base]
open Go.RowKit Go.Maps
open Go.WideShapes (add_plain)

section
variable {w : World} {hv : Nat → Value} {hn hc : Nat → Nat} {th pl : Nat × Nat → Nat} {sv pv : Nat × Nat → Value} {l k g n c : Nat}

theorem HoldP.blk (h : HoldP w hv hn hc th pl sv pv) (hvl : hv l = .slice (some ⟨g, 0, none⟩) n c) : ∃ cc, Blk w g 66 (hc l * 4) cc := by
  obtain ⟨hx, f, _⟩ := h
  rcases f.row l with ⟨h0, _⟩ | ⟨g', h0, _, _, h3⟩
  · rw [hvl] at h0
    simp at h0
  · rw [hvl] at h0
    simp at h0
    obtain ⟨rfl, _⟩ := h0
    exact ⟨_, h3⟩

/-- A cell of a hold is set. -/
theorem HoldP.set (h : HoldP w hv hn hc th pl sv pv) (hvl : hv l = .slice (some ⟨g, 0, none⟩) n c) (x : Nat) (hx4 : x < 4) (v : Value) {th' pl' : Nat × Nat → Nat} {sv' pv' : Nat × Nat → Value}
    (he : ∀ p, p ≠ (l, k) → th' p = th p ∧ pl' p = pl p ∧ sv' p = sv p ∧ pv' p = pv p)
    (h0 : (if x = 0 then v else .int .i64 (th (l, k) : Int)) = .int .i64 (th' (l, k) : Int)) (h1 : (if x = 1 then v else .int .i64 (pl (l, k) : Int)) = .int .i64 (pl' (l, k) : Int)) (h2 : (if x = 2 then v else sv (l, k)) = sv' (l, k)) (h3 : (if x = 3 then v else pv (l, k)) = pv' (l, k)) :
    HoldP (w.setCell ⟨g, k * 4 + x, none⟩ v) hv hn hc th' pl' sv' pv' ∧ Ch (fun e => e = 66) w (w.setCell ⟨g, k * 4 + x, none⟩ v) := by
  obtain ⟨cc, hb⟩ := h.blk hvl
  obtain ⟨hx, f, hcl⟩ := h
  have hr : HRow (w.setCell ⟨g, k * 4 + x, none⟩ v) (hv l) (hn l, hc l, fun j => if j = k * 4 + x then v else hx l j) := by
    rcases f.row l with ⟨a0, _⟩ | ⟨g', a0, a1, a2, a3⟩
    · rw [hvl] at a0
      simp at a0
    · have e : g' = g := by
        rw [hvl] at a0
        simp at a0
        exact a0.1.symm
      subst e
      exact .inr ⟨g', a0, a1, a2, a3.set _ _⟩
  have f2 := f.turn (w' := w.setCell ⟨g, k * 4 + x, none⟩ v) HRow.loc l hr (fun g' _ hn => heap_setCell_other _ _ _ _ fun hc => hn (by rw [hvl]; simp at hc; simp [Value.ownBlock, hc])) (fun g' hg' => .inl hg')
  rw [upd_self] at f2
  refine ⟨⟨fun m => if m = l then (fun j => if j = k * 4 + x then v else hx l j) else hx m, ⟨fun m => ?_, f2.own⟩, fun m j hj => ?_⟩, (Ch.refl (fun e => e = 66) w).setCell hb rfl _ _⟩
  · have := f2.row m
    by_cases e : m = l
    · subst e
      rw [upd_same] at this
      simpa using this
    · rw [upd_other _ _ e] at this
      simpa [e] using this
  · obtain ⟨c0, c1, c2, c3⟩ := hcl m j hj
    by_cases e : m = l
    · subst e
      simp only [if_true]
      by_cases ek : j = k
      · subst ek
        refine ⟨?_, ?_, ?_, ?_⟩
        · rw [← h0, ← c0]
          by_cases ex : x = 0 <;> simp [ex]
        · rw [← h1, ← c1]
          by_cases ex : x = 1 <;> simp [ex]
          omega
        · rw [← h2, ← c2]
          by_cases ex : x = 2 <;> simp [ex]
          omega
        · rw [← h3, ← c3]
          by_cases ex : x = 3 <;> simp [ex]
          omega
      · obtain ⟨e0, e1, e2, e3⟩ := he (m, j) (by simp [ek])
        rw [e0, e1, e2, e3]
        exact ⟨(if_neg (by omega)).trans c0, (if_neg (by omega)).trans c1, (if_neg (by omega)).trans c2, (if_neg (by omega)).trans c3⟩
    · obtain ⟨e0, e1, e2, e3⟩ := he (m, j) (by simp [e])
      rw [e0, e1, e2, e3]
      simp only [e, if_false]
      exact ⟨c0, c1, c2, c3⟩

theorem HoldP.setTh (h : HoldP w hv hn hc th pl sv pv) (hvl : hv l = .slice (some ⟨g, 0, none⟩) n c) (k t : Nat) : HoldP (w.setCell ⟨g, k * 4, none⟩ (.int .i64 (t : Int))) hv hn hc (upd th (l, k) t) pl sv pv ∧ Ch (fun e => e = 66) w (w.setCell ⟨g, k * 4, none⟩ (.int .i64 (t : Int))) :=
  h.set (k := k) hvl 0 (by omega) _ (fun p hp => ⟨upd_other _ _ hp, rfl, rfl, rfl⟩) (by simp [upd]) (by simp) (by simp) (by simp)
theorem HoldP.setPl (h : HoldP w hv hn hc th pl sv pv) (hvl : hv l = .slice (some ⟨g, 0, none⟩) n c) (k t : Nat) : HoldP (w.setCell ⟨g, k * 4 + 1, none⟩ (.int .i64 (t : Int))) hv hn hc th (upd pl (l, k) t) sv pv ∧ Ch (fun e => e = 66) w (w.setCell ⟨g, k * 4 + 1, none⟩ (.int .i64 (t : Int))) :=
  h.set (k := k) hvl 1 (by omega) _ (fun p hp => ⟨rfl, upd_other _ _ hp, rfl, rfl⟩) (by simp) (by simp [upd]) (by simp) (by simp)
theorem HoldP.setSv (h : HoldP w hv hn hc th pl sv pv) (hvl : hv l = .slice (some ⟨g, 0, none⟩) n c) (k : Nat) (v : Value) : HoldP (w.setCell ⟨g, k * 4 + 2, none⟩ v) hv hn hc th pl (upd sv (l, k) v) pv ∧ Ch (fun e => e = 66) w (w.setCell ⟨g, k * 4 + 2, none⟩ v) :=
  h.set (k := k) hvl 2 (by omega) _ (fun p hp => ⟨rfl, rfl, upd_other _ _ hp, rfl⟩) (by simp) (by simp) (by simp [upd]) (by simp)
theorem HoldP.setPv (h : HoldP w hv hn hc th pl sv pv) (hvl : hv l = .slice (some ⟨g, 0, none⟩) n c) (k : Nat) (v : Value) : HoldP (w.setCell ⟨g, k * 4 + 3, none⟩ v) hv hn hc th pl sv (upd pv (l, k) v) ∧ Ch (fun e => e = 66) w (w.setCell ⟨g, k * 4 + 3, none⟩ v) :=
  h.set (k := k) hvl 3 (by omega) _ (fun p hp => ⟨rfl, rfl, rfl, upd_other _ _ hp⟩) (by simp) (by simp) (by simp) (by simp [upd])

/-- The list of holds gets another length, in its room. -/
theorem HoldP.len (h : HoldP w hv hn hc th pl sv pv) (hvl : hv l = .slice (some ⟨g, 0, none⟩) n c) {m : Nat} (hm : m ≤ hc l) : HoldP w (upd hv l (.slice (some ⟨g, 0, none⟩) m (hc l))) (upd hn l m) hc th pl sv pv := by
  obtain ⟨hx, f, hcl⟩ := h
  have hr : HRow w (.slice (some ⟨g, 0, none⟩) m (hc l)) (m, hc l, hx l) := by
    rcases f.row l with ⟨a0, _⟩ | ⟨g', a0, a1, a2, a3⟩
    · rw [hvl] at a0
      simp at a0
    · rw [hvl] at a0
      simp at a0
      obtain ⟨rfl, _⟩ := a0
      exact .inr ⟨g, rfl, hm, a2, a3⟩
  have f2 := f.turn (w' := w) HRow.loc l hr (fun _ _ _ => rfl) (fun g' hg' => .inl (by rw [hvl]; exact hg'))
  refine ⟨hx, ⟨fun m' => ?_, f2.own⟩, hcl⟩
  have := f2.row m'
  by_cases e : m' = l
  · subst e
    simpa [upd] using this
  · simpa [upd, e] using this

theorem LockP.setHv {L : Nat} {ct : Nat → Nat} (h : LockP w (some L) hv ct) (hl : l ≤ 2) (v : Value) : LockP (w.setCell ⟨L, l * 4, none⟩ v) (some L) (upd hv l v) ct ∧ Ch (fun e => e = 93) w (w.setCell ⟨L, l * 4, none⟩ v) := by
  rcases h with ⟨h0, _⟩ | ⟨LS, lc, h0, hb, h1⟩
  · simp at h0
  · simp at h0
    subst h0
    refine ⟨.inr ⟨L, _, rfl, hb.set (l * 4) v, fun m hm => ?_⟩, (Ch.refl (fun e => e = 93) w).setCell hb rfl _ _⟩
    obtain ⟨a1, a2⟩ := h1 m hm
    have n1 : ¬ m * 4 + 1 = l * 4 := by omega
    by_cases e : m = l
    · subst e
      exact ⟨by simp [upd], (if_neg n1).trans a2⟩
    · have n0 : ¬ m * 4 = l * 4 := by omega
      exact ⟨((if_neg n0).trans a1).trans (by simp [upd, e]), (if_neg n1).trans a2⟩

theorem LockP.setCt {L : Nat} {ct : Nat → Nat} (h : LockP w (some L) hv ct) (hl : l ≤ 2) (v : Nat) : LockP (w.setCell ⟨L, l * 4 + 1, none⟩ (.int .i64 (v : Int))) (some L) hv (upd ct l v) ∧ Ch (fun e => e = 93) w (w.setCell ⟨L, l * 4 + 1, none⟩ (.int .i64 (v : Int))) := by
  rcases h with ⟨h0, _⟩ | ⟨LS, lc, h0, hb, h1⟩
  · simp at h0
  · simp at h0
    subst h0
    refine ⟨.inr ⟨L, _, rfl, hb.set (l * 4 + 1) _, fun m hm => ?_⟩, (Ch.refl (fun e => e = 93) w).setCell hb rfl _ _⟩
    obtain ⟨a1, a2⟩ := h1 m hm
    have n1 : ¬ m * 4 = l * 4 + 1 := by omega
    by_cases e : m = l
    · subst e
      exact ⟨(if_neg n1).trans a1, by simp [upd]⟩
    · have n0 : ¬ m * 4 + 1 = l * 4 + 1 := by omega
      exact ⟨(if_neg n1).trans a1, ((if_neg n0).trans a2).trans (by simp [upd, e])⟩

end

/-- The cells of a new row of holds. -/
def zH (j : Nat) : Value := if j % 4 = 0 ∨ j % 4 = 1 then .int .i64 0 else nilS

theorem info66 : (Yba.prog.info? 66).map (fun i => (i.zero, i.size, i.bytes)) = some (some (.agg #[.int .i64 0, .int .i64 0, nilS, nilS]), 4, 64) := by kernel_rfl

theorem zeroCells66 (m j : Nat) (hj : j < m * 4) : (Builtin.zeroCells #[.int .i64 0, .int .i64 0, nilS, nilS] m)[j]? = some (zH j) := by
  have h4 : j % 4 = 0 ∨ j % 4 = 1 ∨ j % 4 = 2 ∨ j % 4 = 3 := by omega
  simp only [Builtin.zeroCells]
  rcases h4 with h | h | h | h <;> simp [zH, h, hj]

theorem zH_add (n j : Nat) : zH (n * 4 + j) = zH j := by
  unfold zH
  have : (n * 4 + j) % 4 = j % 4 := by omega
  rw [this]

/-- append(holds, nestedHold{}) where there is no room. -/
theorem run_append66 (w : World) (hB : Base.n ≤ w.heap.size) (v : Value) (n : Nat) (c : Nat → Value) (hv : (v = nilS ∧ n = 0) ∨ ∃ g, v = .slice (some ⟨g, 0, none⟩) n n ∧ Blk w g 66 (n * 4) c) (hn : n ≤ 100000) (a : Addr) (cc : Nat) (ha : ∀ j, j < 4 → w.cell? (a.add j) = some (zH j)) :
    ∃ cap w', (∀ ty, (Builtin.append_ #[90, 90] ty #[v, .slice (some a) 1 cc]).run Yba.prog w = .ok (.slice (some ⟨w.heap.size, 0, none⟩) (n + 1) cap) w') ∧ n + 1 ≤ cap ∧ cap ≤ maxLen ∧ w.grownBy w' none ∧ Blk w' w.heap.size 66 (cap * 4) (fun j => if j < n * 4 then c j else zH j) := by
  obtain ⟨i, hi0, hz, hz1, hz2⟩ := info_parts info66
  have hl : ((List.range 4).map zH).length = 1 * i.size := by rw [hz1]; rfl
  have hnews : ∀ j u, ((List.range 4).map zH)[j]? = some u → w.cell? (a.add j) = some u := fun j u hu => by
    obtain ⟨hj, rfl⟩ := news_get _ _ _ _ hu
    exact ha j hj
  rcases hv with ⟨rfl, rfl⟩ | ⟨g, rfl, hb⟩
  · have hge := grownCap_ge w 1 0 66
    refine ⟨_, _, fun ty => run_append_nil (P := Yba.prog) w 90 ty 66 i _ Yba.underlying90 hi0 hz a 1 cc _ hl hnews (by omega) (by omega) (by rw [hz2]; omega), hge, grownCap_le_maxLen w 1 0 66 (by decide), ⟨rfl, rfl, rfl, by simp, fun k hk _ => Below.heap_alloc w.drew _ k hk⟩, ?_⟩
    refine Blk.new w.drew _ 66 hB ?_ fun j hj => ?_
    · simp [size_zeroCells, Value.cells]
      omega
    · have : ¬ j < 0 * 4 := by omega
      simp only [this, if_false]
      by_cases hj1 : j < 4
      · rw [Array.getElem?_append_left (by simpa using hj1)]
        simp [hj1]
      · rw [Array.getElem?_append_right (by simp; omega)]
        have e1 : ((List.range 4).map zH).toArray.size = 4 := by simp
        rw [e1]
        simp only [Value.cells]
        have e := zH_add 1 (j - 4)
        rw [show 1 * 4 + (j - 4) = j by omega] at e
        rw [zeroCells66 _ _ (by omega), e]
  · obtain ⟨_, cur, hg, hs, hc⟩ := hb
    have hxl : ((List.range (n * 4)).map c).length = n * i.size := by simp [hz1]
    have holds : ∀ j u, ((List.range (n * 4)).map c)[j]? = some u → w.cell? ((⟨g, 0, none⟩ : Addr).add j) = some u := fun j u hu => by
      obtain ⟨hj, rfl⟩ := news_get _ _ _ _ hu
      rw [add_plain, cell_of_row w g _ cur 66 (0, 0) hg]
      simpa using hc j hj
    have hge := grownCap_ge w (n + 1) n 66
    refine ⟨_, _, fun ty => run_append_grow (P := Yba.prog) w 90 ty 66 i _ Yba.underlying90 hi0 hz ⟨g, 0, none⟩ n n _ hxl holds a 1 cc _ hl hnews (by omega) (by omega) (growslice_fits (by omega) (by rw [hz2]; omega)), hge, grownCap_le_maxLen w (n + 1) n 66 (by unfold maxLen; omega), ⟨rfl, rfl, rfl, by simp, fun k hk _ => Below.heap_alloc w.drew _ k hk⟩, ?_⟩
    refine Blk.new w.drew _ 66 hB ?_ fun j hj => ?_
    · simp [size_zeroCells, Value.cells]
      omega
    · by_cases hj1 : j < n * 4 + 4
      · rw [Array.getElem?_append_left (by simp; omega)]
        by_cases hj2 : j < n * 4
        · rw [Array.getElem?_append_left (by simp; omega)]
          simp [hj2]
        · rw [Array.getElem?_append_right (by simp; omega)]
          have hk : j - n * 4 < 4 := by omega
          simp only [hj2, if_false]
          simp [hk]
          have : j = n * 4 + (j - n * 4) := by omega
          conv => rhs; rw [this]
          rw [zH_add]
      · rw [Array.getElem?_append_right (by simp; omega)]
        have hj2 : ¬ j < n * 4 := by omega
        simp only [hj2, if_false]
        have e1 : (((List.range (n * 4)).map c).toArray ++ ((List.range 4).map zH).toArray).size = n * 4 + 4 := by simp
        simp only [Value.cells]
        have e := zH_add (n + 1) (j - (n * 4 + 4))
        rw [show (n + 1) * 4 + (j - (n * 4 + 4)) = j by omega] at e
        rw [e1, zeroCells66 _ _ (by omega), e]

#print axioms run_append66
end Go.Proofs.Ybulkbzhm
