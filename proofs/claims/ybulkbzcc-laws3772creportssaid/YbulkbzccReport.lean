import Derived.Test.YbulkbzccMark
namespace Go.Proofs.Ybulkbzcc
open Go.RowKit Go.Maps

/-- What a report has done while 'left' keys are still to come. -/
def Rep (f f2 : Int → Option Value) (o : Int → Bool) (s : Int → Int) (cy : Int) (left : Lit → Bool) (o' : Int → Bool) (s' : Int → Int) : Prop :=
  ∀ x, (f2 x ≠ none → left (.int .i64 x) = false → f x ≠ none → o x = false → o' x = true ∧ s' x = cy) ∧ (¬ (f2 x ≠ none ∧ left (.int .i64 x) = false ∧ f x ≠ none ∧ o x = false) → o' x = o x ∧ s' x = s x)

theorem sameKey_int (x y : Int) : (Lit.int .i64 x).sameKey (.int .i64 y) = decide (x = y) := by simp [Lit.sameKey]

theorem Rep.pass {f f2 : Int → Option Value} {o : Int → Bool} {s : Int → Int} {cy : Int} {left : Lit → Bool} {o' : Int → Bool} {s' : Int → Int} (h : Rep f f2 o s cy left o' s') {x : Int} (hl : left (.int .i64 x) = true) (hx : f x = none ∨ o x = true) :
    Rep f f2 o s cy (fun z => left z && !z.sameKey (.int .i64 x)) o' s' := by
  intro y
  by_cases e : y = x
  · subst e
    have hy := (h y).2 (by simp [hl])
    refine ⟨fun _ _ h3 h4 => ?_, fun _ => hy⟩
    rcases hx with hx | hx
    · exact absurd hx h3
    · rw [hx] at h4; cases h4
  · have e1 : (left (.int .i64 y) && !(Lit.int .i64 y).sameKey (.int .i64 x)) = left (.int .i64 y) := by simp [sameKey_int, e]
    refine ⟨fun h1 h2 => ?_, fun h1 => (h y).2 ?_⟩
    · dsimp only at h2
      rw [e1] at h2
      exact (h y).1 h1 h2
    · dsimp only at h1
      rw [e1] at h1
      exact h1

theorem Rep.done {f f2 : Int → Option Value} {o : Int → Bool} {s : Int → Int} {cy : Int} {left : Lit → Bool} {o' : Int → Bool} {s' : Int → Int} (h : Rep f f2 o s cy left o' s') {x : Int} (hf2 : f2 x ≠ none) (hf : f x ≠ none) (ho : o x = false) :
    Rep f f2 o s cy (fun z => left z && !z.sameKey (.int .i64 x)) (fun y => if y = x then true else o' y) (fun y => if y = x then cy else s' y) := by
  intro y
  by_cases e : y = x
  · subst e
    refine ⟨fun _ _ _ _ => by simp, fun h1 => absurd ⟨hf2, by simp [sameKey_int], hf, ho⟩ h1⟩
  · have e1 : (left (.int .i64 y) && !(Lit.int .i64 y).sameKey (.int .i64 x)) = left (.int .i64 y) := by simp [sameKey_int, e]
    simp only [e, if_false]
    refine ⟨fun h1 h2 => ?_, fun h1 => (h y).2 ?_⟩
    · rw [e1] at h2
      exact (h y).1 h1 h2
    · rw [e1] at h1
      exact h1

theorem has_of_some {D : DataW Value} {f2 : Int → Option Value} (hD : ∀ x z, D.atKey (.int .i64 x) (.held z) = .held ((f2 x).getD z)) {x : Int} (h : f2 x ≠ none) : Maps.has D (.int .i64 x) = true := by
  cases hh : Maps.has D (.int .i64 x)
  · exfalso
    obtain ⟨v, hv⟩ := Option.ne_none_iff_exists'.1 h
    have a1 := hD x (.bool true)
    have a2 := hD x (.bool false)
    rw [atKey_of_not_has hh, hv] at a1 a2
    simp at a1 a2
    rw [← a1] at a2
    simp at a2
  · rfl

theorem some_of_at {D : DataW Value} {f2 : Int → Option Value} (hD : ∀ x z, D.atKey (.int .i64 x) (.held z) = .held ((f2 x).getD z)) {x : Int} {d : DataW Value} (h : ∀ zd, D.atKey (.int .i64 x) zd = d) : f2 x ≠ none := by
  intro hn
  have a1 := hD x (.bool true)
  have a2 := hD x (.bool false)
  rw [h, hn] at a1 a2
  rw [a1] at a2
  simp at a2

theorem ranges_ne {w : World} {b r n : Nat} {D : DataW Value} {left : Lit → Bool} {cnt : Nat} (h : w.ranges Yba.prog 3 heldE b r n D left cnt) {g : Nat} {e : TypeId} {sz : Nat} {c : Nat → Value} (hb : Blk w g e sz c) : g ≠ r ∧ g ≠ b := by
  obtain ⟨es, clock, since, seen, c0, h1, _, _, _, h2, _⟩ := h
  obtain ⟨cur, h3, _⟩ := hb
  refine ⟨fun e => ?_, fun e => ?_⟩
  · rw [e, h2] at h3
    cases h3
  · rw [e, h1] at h3
    cases h3

theorem ranges_map_ne {w : World} {b r n : Nat} {D : DataW Value} {left : Lit → Bool} {cnt : Nat} (h : w.ranges Yba.prog 3 heldE b r n D left cnt) {M n' : Nat} {f : Int → Option Value} (hb : MapI w Yba.prog 3 .i64 M n' f) : M ≠ r := by
  obtain ⟨es, clock, since, seen, c0, h1, _, _, _, h2, _⟩ := h
  obtain ⟨D', ⟨es', clock', h3, _⟩, _⟩ := hb
  intro e
  rw [e, h2] at h3
  cases h3

theorem ranges_nocells {w w' : World} {b r n : Nat} {D : DataW Value} {left : Lit → Bool} {cnt : Nat} (h : w.ranges Yba.prog 3 heldE b r n D left cnt) (hn : NoCells w w') : w'.ranges Yba.prog 3 heldE b r n D left cnt := by
  have h0 := h
  obtain ⟨es, clock, since, seen, c0, h1, a1, a2, a3, h2, a4⟩ := h
  refine ⟨es, clock, since, seen, c0, (hn.2.2.2.2 b h0.owns.lt fun e sz c hb => (ranges_ne h0 hb).2 rfl).trans h1, a1, a2, a3, (hn.2.2.2.2 r h0.lt fun e sz c hb => (ranges_ne h0 hb).1 rfl).trans h2, a4⟩

theorem CacheOK.cycle {w : World} {B C M n k : Nat} {cyc : Int} {f : Int → Option Value} {o : Int → Bool} {s : Int → Int} (h : CacheOK w B C M n k cyc f o s) (cy : Int) (v : Value) (b : Value) :
    CacheOK (((w.setCell ⟨C, 13, none⟩ (.int .i64 cy)).setCell ⟨C, 14, none⟩ v).setCell ⟨C, 15, none⟩ b) B C M n k cy f o s := by
  obtain ⟨hBC, ⟨c, hC, c0, c1, c2, c13, ⟨lb, lo, c11, hlb⟩, no, xs, hno, hold, hog⟩, hmap, hent⟩ := h
  have hMC : M ≠ C := (hmap.ne_blk hC).symm
  refine ⟨hBC, ⟨_, ((hC.set 13 _).set 14 _).set 15 _, by simpa using c0, by simpa using c1, by simpa using c2, by simp, ⟨lb, lo, by simpa using c11, ?_⟩, no, xs, hno, ?_, by simpa using hog⟩, hmap.of_block (by rw [heap_setCell_other _ _ _ _ hMC, heap_setCell_other _ _ _ _ hMC, heap_setCell_other _ _ _ _ hMC]), fun x v' hv => ?_⟩
  · rcases hlb with h | ⟨h1, h2, ce, h3⟩
    · exact .inl h
    · have := h3.ne hC (by decide)
      exact .inr ⟨h1, h2, ce, ((h3.set_other this _).set_other this _).set_other this _⟩
  · simp only [Nat.reduceEqDiff, if_false]
    refine hold.of_block fun g hg => ?_
    obtain ⟨sz, cg, hbg⟩ := hold.typed hg
    have := hbg.ne hC (by decide)
    rw [heap_setCell_other _ _ _ _ this, heap_setCell_other _ _ _ _ this, heap_setCell_other _ _ _ _ this]
  · obtain ⟨E, rfl, hBE, ce, h1, r⟩ := hent x v' hv
    have := h1.ne hC (by decide)
    exact ⟨E, rfl, hBE, ce, ((h1.set_other this _).set_other this _).set_other this _, r⟩

theorem law3 : Keyed Yba.prog 3 := int_keyed Yba.underlying3

set_option maxRecDepth 100000 in
set_option maxHeartbeats 1000000 in
theorem report_any (B C M n k M2 m : Nat) (cyc cy : Int) (f f2 : Int → Option Value) (o : Int → Bool) (s : Int → Int) (w : World) (h : CacheOK w B C M n k cyc f o s) (h2 : MapI w Yba.prog 3 .i64 M2 m f2) (hk : k + m ≤ 800) (hBw : B ≤ w.heap.size) :
    Calls Yba.prog 15 #[.pointer (some ⟨C, 0, none⟩), .int .i64 cy, .map (some M2)] w fun e w' => e = .returned (.tuple #[]) ∧ ∃ k' o' s', CacheOK w' B C M n k' cy f o' s' ∧ k' ≤ k + m ∧
      (∀ x, f2 x ≠ none → f x ≠ none → o x = false → o' x = true ∧ s' x = cy) ∧ (∀ x, ¬ (f2 x ≠ none ∧ f x ≠ none ∧ o x = false) → o' x = o x ∧ s' x = s x) ∧ Below B w w' := by
  obtain ⟨D, hown, hD⟩ := h2
  have hsz := hown.size_le
  go_enter Yba.func15, Yba.ntmps15
  go_wp2_with (first
    | (at_range; refine wpList_range_own _ rfl _ 65 rfl 3 4 law3 Yba.underlying65 _ M2 m D rfl hown ?_; intro w0 hrg0 hg0 hs0))
  go_frame
  go_loopw [6] (fun _ wr => ∃ (left : Lit → Bool) (cnt k' : Nat) (o' : Int → Bool) (s' : Int → Int), wr.ranges Yba.prog 3 heldE M2 w.heap.size m D left cnt ∧ CacheOK wr B C M n k' cyc f o' s' ∧ k' + cnt ≤ k + m ∧ Rep f f2 o s cy left o' s' ∧ Below B w wr)
    (fun _ wr => wr.rangeLeft M2 w.heap.size)
  case atStart =>
    refine ⟨_, _, k, o, s, hrg0, h.of_blocks (fun g e sz c hb => hg0.block g hb.lt (by simp)) (hg0.block M h.map.lt (by simp)), by omega, fun x => ⟨fun h1 h2' => ?_, fun _ => ⟨rfl, rfl⟩⟩, ⟨hg0.os, hg0.tape, hg0.output, hg0.size, fun g hg => hg0.block g (by omega) (by simp)⟩⟩
    rw [has_of_some hD h1] at h2'
    cases h2'
  case round =>
    obtain ⟨left, cnt, k', o', s', hrg, hc, hkc, hrep, hbel⟩ := hrel
    go_wp2_with (first
      | (at_next; refine wpList_next_ranges _ rfl _ rfl 3 law3 heldE (Value.int .i64) (fun v => v) (fun key kl hkey => by obtain ⟨x, rfl, _⟩ := Maps.keyOf_int_inv Yba.underlying3 hkey; exact ⟨x, rfl⟩) (fun v y hv => ⟨v, rfl⟩) M2 w.heap.size m _ _ _ rfl hrg ?_ ?_))
    · intro _ hl0
      obtain ⟨c, hC, _⟩ := hc.blk
      have q13 := hC.cell (i := 13) (by omega)
      have q14 := hC.cell (i := 14) (by omega)
      have q15 := hC.cell (i := 15) (by omega)
      have zC := hC.frozen
      have hBC := hc.base.1
      go_wp2
      go_end0
      refine ⟨rfl, k', o', s', hc.cycle cy _ _, by omega, fun x h1 h2 h3 => (hrep x).1 h1 (hl0 _) h2 h3, fun x h1 => (hrep x).2 fun h3 => h1 ⟨h3.1, h3.2.2.1, h3.2.2.2⟩, ((hbel.setCell hBC _).setCell hBC _).setCell hBC _⟩
    · intro x v kl y1 y2 w1 cnt1 hkey hlx hv hat hrg1 hlt hg1 hs1 hen
      obtain ⟨x', ex, rfl, hwx⟩ := Maps.keyOf_int_inv Yba.underlying3 hkey
      cases ex
      have hf2 : f2 x ≠ none := some_of_at hD hat
      have hc1 : CacheOK w1 B C M n k' cyc f o' s' := hc.of_blocks (fun g e sz c hb => hg1.block g hb.lt (by have := (ranges_ne hrg hb).1; simpa using this)) (hg1.block M hc.map.lt (by have := ranges_map_ne hrg hc.map; simpa using this))
      have hbel1 : Below B w w1 := hbel.trans ⟨hg1.os, hg1.tape, hg1.output, hg1.size, fun g hg => hg1.block g (by have := hbel.size; omega) (by simp; omega)⟩
      have hmap1 := hc1.map
      obtain ⟨c, hC, _, _, c2, _⟩ := hc1.blk
      have q2 : w1.cell? ⟨C, 2, none⟩ = some (.map (some M)) := (hC.cell (i := 2) (by omega)).trans (by rw [c2])
      have hL : left (.int .i64 x) = true := hlx
      clear c2 hlx hkey hat hv
      cases hfx : f x with
      | none =>
        have HF : Hid (f x = none) := hfx
        clear hfx
        go_wp2_with (first
          | (at_lookup; refine wpList_lookup_mapI _ rfl _ _ 81 rfl 3 82 .i64 Yba.underlying3 Yba.underlying81 _ (zero82 _) M n f rfl hmap1 x rfl hwx (.pointer none) (by rw [HF.out]; rfl) ?_))
        go_roundw
        case rel => exact ⟨_, cnt1, k', o', s', hrg1, hc1, by omega, hrep.pass hL (.inl HF.out), hbel1⟩
        case measure => rw [hrg1.left_eq, hrg.left_eq]; exact hlt
      | some u =>
        obtain ⟨E, rfl, _, _⟩ := hc1.ent x u hfx
        have HF : Hid (f x = some (.pointer (some ⟨E, 0, none⟩))) := hfx
        clear hfx
        have hBw1 : B ≤ w1.heap.size := by have := hbel1.size; omega
        cases hox : o' x with
        | true =>
          have HO : Hid (o' x = true) := hox
          clear hox
          have hOx : o x = true := by rw [← ((hrep x).2 (by simp [hL])).1]; exact HO.out
          have HOx : Hid (o x = true) := hOx
          clear hOx
          go_wp2_with (first
            | (at_lookup; refine wpList_lookup_mapI _ rfl _ _ 81 rfl 3 82 .i64 Yba.underlying3 Yba.underlying81 _ (zero82 _) M n f rfl hmap1 x rfl hwx (.pointer (some ⟨E, 0, none⟩)) (by rw [HF.out]; rfl) ?_)
            | (go_at_call 25; refine (mark_yes x E cy hc1 HF.out HO.out).mono ?_; rintro e w' ⟨rfl, rfl⟩))
          go_roundw
          case rel => exact ⟨_, cnt1, k', o', s', hrg1, hc1, by omega, hrep.pass hL (.inr HOx.out), hbel1⟩
          case measure => rw [hrg1.left_eq, hrg.left_eq]; exact hlt
        | false =>
          have HO : Hid (o' x = false) := hox
          clear hox
          have hOx : o x = false := by rw [← ((hrep x).2 (by simp [hL])).1]; exact HO.out
          have HOx : Hid (o x = false) := hOx
          clear hOx
          go_wp2_with (first
            | (at_lookup; refine wpList_lookup_mapI _ rfl _ _ 81 rfl 3 82 .i64 Yba.underlying3 Yba.underlying81 _ (zero82 _) M n f rfl hmap1 x rfl hwx (.pointer (some ⟨E, 0, none⟩)) (by rw [HF.out]; rfl) ?_)
            | (go_at_call 25; refine (mark_no x E cy hc1 HF.out HO.out (by omega) hBw1).mono ?_; rintro e w2 ⟨rfl, hc2, hnc, hbel2⟩))
          have hrg2 := ranges_nocells hrg1 hnc
          go_roundw
          case rel => exact ⟨_, cnt1, k' + 1, _, _, hrg2, hc2, by omega, hrep.done hf2 (by rw [HF.out]; simp) HOx.out, hbel1.trans hbel2⟩
          case measure => rw [hrg2.left_eq, hrg.left_eq]; exact hlt

#print axioms report_any
end Go.Proofs.Ybulkbzcc
