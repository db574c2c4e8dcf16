import Derived.Test.YbulkbzccFreshW
import Derived.ShutString
import Derived.ChangeOld
import Derived.OpenShut
import Derived.Deep.Strs
namespace Go.Proofs.Ybulkbzcc.lawS3772BFresh
open Go.ChangeShapes Go.WideShapes Go.ChangeAt Go.RowKit Go.Deep
set_option linter.unusedVariables false

theorem own : ownKnob Yba.prog.godebug = none := by kernel_rfl
theorem laidOut : laidOutB Yba.prog = true := by kernel_rfl
theorem one22 (wx : World) : (sizeOf 22).run Yba.prog wx = .ok 1 wx := by kernel_rfl
theorem cells32 : Yba.prog.cellsOf 32 = 3 := by kernel_rfl
theorem cells4 : Yba.prog.cellsOf 4 = 1 := by kernel_rfl
theorem cells3 : Yba.prog.cellsOf 3 = 1 := by kernel_rfl
theorem cells2 : Yba.prog.cellsOf 2 = 1 := by kernel_rfl

theorem list3 {α : Type} {l : List α} (h : l.length = 3) : ∃ a b c, l = [a, b, c] := by
  match l, h with
  | [a, b, c], _ => exact ⟨a, b, c, rfl⟩

/-- An event as it was read: a bool and two integers. -/
theorem event_cells {H : Type} {enc : TypeId × Value → H} {w : World} {base : Nat} {spare : Nat → Bool} {held : Bool} {fuel : Nat} {cs : List Value} {x : DataW H × List MemPlace} (h : DataW.trod enc Yba.prog w base spare held fuel 32 cs = some x) :
    ∃ b i v, cs = [.bool b, .int .i64 i, .int .i64 v] := by
  obtain ⟨y0, y1, y2, n, _, hl, h0, h1, h2⟩ := trod_struct3 Yba.underlying32 h
  rw [cells32] at hl
  obtain ⟨c0, c1, c2, rfl⟩ := list3 hl
  simp only [cells4, cells3, cells2, List.drop_zero, List.take_succ_cons, List.take_zero, List.drop_succ_cons] at h0 h1 h2
  obtain ⟨b, e0, _⟩ := DataW.trod_bool Yba.underlying4 h0
  obtain ⟨i, e1, _⟩ := DataW.trod_int Yba.underlying3 h1
  obtain ⟨v, e2, _⟩ := DataW.trod_int Yba.underlying2 h2
  simp at e0 e1 e2
  exact ⟨b, i, v, by rw [e0, e1, e2]⟩

theorem openEv {H : Type} {enc : TypeId × Value → H} {W : World} {a : Option Addr} {len cap : Nat} {d : DataW H} {p : List MemPlace} (h : DataW.Trod enc Yba.prog W 0 (fun _ => true) true 23 (.slice a len cap) d p) :
    ∃ (Pb : Nat → Bool) (Pi Pv : Nat → Int) (b o : Nat), RowEv W 23 a len cap b o (evCell Pb Pi Pv) ∧ len ≤ maxLen := by
  obtain ⟨fuel, hf⟩ := h
  rcases open_slice Yba.underlying23 hf with ⟨hcs, _⟩ | ⟨x, l, c, m, n, D, Pl, hcs, _, hl, hm, hmm, _, hx⟩
  · simp [Value.cells] at hcs
    obtain ⟨rfl, rfl, rfl⟩ := hcs
    exact ⟨fun _ => false, fun _ => 0, fun _ => 0, 0, 0, ⟨fun i wx h0 h1 => absurd h1 (by simp; omega), fun j hj => absurd hj (by omega), fun h => absurd h (by omega), .inl rfl⟩, by decide⟩
  · simp [Value.cells] at hcs
    obtain ⟨rfl, rfl, rfl⟩ := hcs
    simp only [if_true] at hmm
    obtain ⟨ev, hev⟩ := choose_lt (α := Bool × Int × Int) (n := len) (p := fun i y => W.cell? (x.add (i * 3)) = some (.bool y.1) ∧ W.cell? (x.add (i * 3 + 1)) = some (.int .i64 y.2.1) ∧ W.cell? (x.add (i * 3 + 2)) = some (.int .i64 y.2.2)) (fun i hi => by
      obtain ⟨cs', h1, h2⟩ := hx i (by omega)
      rw [cells32] at h1
      obtain ⟨b, iv, v, rfl⟩ := event_cells h2
      obtain ⟨_, _, hc⟩ := World.cells?_some h1
      refine ⟨(b, iv, v), ?_, ?_, ?_⟩
      · have := hc 0 (by omega)
        rw [add_add] at this
        simpa using this
      · have := hc 1 (by omega)
        rw [add_add] at this
        simpa using this
      · have := hc 2 (by omega)
        rw [add_add] at this
        simpa using this)
    have hall : ∀ j, j < len * 3 → W.cell? (x.add j) = some (evCell (fun i => (ev i).1) (fun i => (ev i).2.1) (fun i => (ev i).2.2) j) := fun j hj => by
      obtain ⟨h0, h1, h2⟩ := hev (j / 3) (by omega)
      have h3 : j % 3 = 0 ∨ j % 3 = 1 ∨ j % 3 = 2 := by omega
      rcases h3 with h3 | h3 | h3
      · have e : j / 3 * 3 = j := by omega
        rw [e] at h0
        simp [evCell, h3, h0]
      · have e : j / 3 * 3 + 1 = j := by omega
        rw [e] at h1
        simp [evCell, h3, h1]
      · have e : j / 3 * 3 + 2 = j := by omega
        rw [e] at h2
        simp [evCell, h3, h2]
    by_cases h0 : len = 0
    · subst h0
      exact ⟨fun _ => false, fun _ => 0, fun _ => 0, 0, 0, ⟨fun i wx h0 h1 => absurd h1 (by simp; omega), fun j hj => absurd hj (by omega), fun h => absurd h (by omega), .inl rfl⟩, by omega⟩
    · obtain ⟨b, off, spot⟩ := x
      have hsp : spot = none := by simpa [Addr.add] using World.cell?_spot (hall 0 (by omega))
      subst hsp
      refine ⟨fun i => (ev i).1, fun i => (ev i).2.1, fun i => (ev i).2.2, b, off, ⟨fun i wx h1 h2 => ?_, fun j hj => ?_, fun _ => ?_, .inr ⟨_, rfl, hall⟩⟩, by omega⟩
      · rw [indexAt_three (t := 23) (by kernel_rfl) (by kernel_rfl) _ _ _ _ _ h1 h2, add_plain]
      · rw [← add_plain]; exact hall j hj
      · have := hall 0 (by omega)
        rw [add_plain] at this
        exact World.block_lt_of_cell? _ _ this

set_option maxRecDepth 100000 in
theorem long1 (np cp ni ci : Nat) (ap ai : Option Addr) (n : Int) (w : World) (hn : 1024 < np) (hm : np ≤ maxLen) :
    Calls Yba.prog 3 #[.int .u16 n, .slice ap np cp, .slice ai ni ci] w fun e w' => e = .returned (.bool true) ∧ Below w.heap.size w w' := by
  unfold maxLen at hm
  have hd : decide ((1024 : Int) < (np : Int)) = true := by simp; omega
  go_enter Yba.func3, Yba.ntmps3
  go_wp2
  go_ret
  exact ⟨rfl, Below.refl _ _⟩

set_option maxRecDepth 100000 in
theorem long2 (np cp ni ci : Nat) (ap ai : Option Addr) (n : Int) (w : World) (hn : np ≤ 1024) (hn2 : 1024 < ni) (hm : ni ≤ maxLen) :
    Calls Yba.prog 3 #[.int .u16 n, .slice ap np cp, .slice ai ni ci] w fun e w' => e = .returned (.bool true) ∧ Below w.heap.size w w' := by
  unfold maxLen at hm
  have hd : decide ((1024 : Int) < (np : Int)) = false := by simp; omega
  have hd2 : decide ((1024 : Int) < (ni : Int)) = true := by simp; omega
  go_enter Yba.func3, Yba.ntmps3
  go_wp2
  go_ret
  exact ⟨rfl, Below.refl _ _⟩

set_option maxRecDepth 100000 in
theorem lifted (os : Os) (started : os.Started) (H : Type) (enc : TypeId × Value → H) :
    ReturnsInHanded {} Yba.checked os 3 .any (Rows.lawS3772BFreshSpec.pre6 enc Yba.prog Yba.f3 Rows.lawS3772BFreshRow.domain false) (Rows.lawS3772BFreshSpec.post enc Yba.prog Yba.f3 false true false false) := by
  refine returnsInHanded_of_change (C := Yba.checked) own started (by kernel_rfl) Yba.func3
    (ChangeSpec.witness6 (enc := enc) (C := Yba.checked) false ⟨#[], #[.int .u16 0, .slice none 0 0, .slice none 0 0], []⟩ 8 (by kernel_rfl) (by kernel_rfl) (by kernel_rfl) (by kernel_rfl)) ?_
  intro W base args ds gs before hval0 hW hcnd _
  have hval : ∀ (j : Nat) t v, Yba.f3.params[j]? = some t → args[j]? = some v → Value.okWide Yba.prog W .any base t v := hval0
  have hW' := hW
  obtain ⟨p, q, hA0, hV, rfl, hfz, hnd⟩ := hW
  have hA : DataW.TrodAll enc Yba.prog W 0 (fun _ => true) true Yba.f3.params.toList args.toList ds p := hA0
  rw [Yba.params3] at hA hval
  obtain ⟨v0, vs0, d0, ds0, p0, q0, hargs, rfl, rfl, h0, r0⟩ := trodAll_cons hA
  obtain ⟨v1, vs1, d1, ds1, p1, q1, rfl, rfl, rfl, h1, r1⟩ := trodAll_cons r0
  obtain ⟨v2, vs2, d2, ds2, p2, q2, rfl, rfl, rfl, h2, r2⟩ := trodAll_cons r1
  obtain ⟨rfl, rfl, rfl⟩ := trodAll_nil r2
  obtain rfl : args = #[v0, v1, v2] := by cases args; simp_all
  obtain ⟨rfl, rfl⟩ := trodVars_none hV
  obtain ⟨a1, len1, cap1, rfl⟩ := okWide_slice Yba.underlying23 (hval 1 23 v1 rfl rfl)
  obtain ⟨a2, len2, cap2, rfl⟩ := okWide_slice Yba.underlying24 (hval 2 24 v2 rfl rfl)
  have k1 := h1
  have k2 := h2
  have lt1 : ∀ x ∈ p1, x.block < W.heap.size := by obtain ⟨m, hm⟩ := k1; exact DataW.trod_lt m _ _ _ hm
  have lt2 : ∀ x ∈ p2, x.block < W.heap.size := by obtain ⟨m, hm⟩ := k2; exact DataW.trod_lt m _ _ _ hm
  obtain ⟨a0, rfl, rfl, rfl, w0⟩ := open_int Yba.underlying22 (hval 0 22 v0 rfl rfl) h0
  obtain ⟨Pb, Pi, Pv, b1, o1, w1, m1⟩ := openEv h1
  obtain ⟨It, b2, o2, w2, wf2, m2⟩ : ∃ (It : Nat → Int) (b o : Nat), RowIs Yba.prog 24 W a2 len2 cap2 b o (fun k => .int .u16 (It k)) ∧ (∀ k, (Lit.int .u16 (It k)).wf = true) ∧ len2 ≤ maxLen := by
    obtain ⟨fuel, hf⟩ := h2
    rcases open_ints Yba.underlying24 Yba.underlying22 (by kernel_rfl) hf with ⟨hcs, _⟩ | ⟨x, l, c, zs, hcs, _, hl, hm, hz, _, hcell, hwz⟩
    · simp [Value.cells] at hcs
      obtain ⟨rfl, rfl, rfl⟩ := hcs
      exact ⟨fun _ => 0, 0, 0, rowIs_nil _, fun _ => (by decide : (Lit.int .u16 0).wf = true), by decide⟩
    · simp [Value.cells] at hcs
      obtain ⟨rfl, rfl, rfl⟩ := hcs
      obtain ⟨b, o, hr⟩ := rowIs_some (t := 24) (e := 22) (by kernel_rfl) (by kernel_rfl) one22 (w := W) (a := x) (len := len2) cap2 (g := fun k => .int .u16 (zs.getD k 0)) (fun i hi => hcell i (by simp at hz; omega))
      refine ⟨fun k => zs.getD k 0, b, o, hr, fun k => ?_, by omega⟩
      by_cases hk : k < zs.length
      · simp only [List.getD, List.getElem?_eq_getElem hk, Option.getD_some]
        exact hwz _ (List.getElem_mem hk)
      · simp only [List.getD, List.getElem?_eq_none (Nat.le_of_not_lt hk), Option.getD_none]
        decide
  clear hA0 hval0
  have fin : ∀ (e : Ending) (W' : World), (e = .returned (.bool true) ∧ Below W.heap.size W W') → ∃ v, e = .returned v ∧ Rows.lawS3772BFreshSpec.post enc Yba.checked.prog Yba.f3 false true false false W #[.int .u16 a0, .slice a1 len1 cap1, .slice a2 len2 cap2] v W' := by
    rintro e W' ⟨he, bel⟩
    subst he
    exact ⟨_, rfl, _, _, _, [], _, [], hW', trodAll_mk1 (shut_bool Yba.underlying4 _), (trodAll_cons_mk (shut_int Yba.underlying22 w0) (trodAll_cons_mk (Below.trod laidOut (by kernel_rfl) (of_decide_eq_true (by kernel_rfl)) k1 bel lt1) (trodAll_cons_mk (Below.trod laidOut (by kernel_rfl) (of_decide_eq_true (by kernel_rfl)) k2 bel lt2) trodAll_mk0))), rfl, bel.frame _, fun h => by cases h⟩
  by_cases hl : len1 ≤ 1024
  · by_cases hl2 : len2 ≤ 1024
    · have b0 := bounds_u16 w0
      exact (fresh_walk a0 len1 cap1 b1 o1 len2 cap2 b2 o2 a1 a2 Pb Pi Pv It W (by omega) (by omega) w1 w2 (fun k => (bounds_u16 (wf2 k)).1) (fun k => (bounds_u16 (wf2 k)).2) hl hl2).mono fin
    · exact (long2 len1 cap1 len2 cap2 a1 a2 a0 W hl (by omega) m2).mono fin
  · exact (long1 len1 cap1 len2 cap2 a1 a2 a0 W (by omega) m1).mono fin

theorem over : Rows.lawS3772BFreshRow.holds Yba.pinned (OpenSpec.ofChange Rows.lawS3772BFreshSpec) :=
  OpenClaim.holds_of_wide 3 Yba.f3 rfl rfl rfl rfl rfl rfl rfl ⟨rfl, rfl, rfl, rfl, rfl⟩ rfl rfl rfl rfl rfl (by kernel_rfl) Yba.func3 (by kernel_rfl)
    (of_decide_eq_true (by kernel_rfl)) (by unfold Func.isWrapper; first | (rw [if_pos (by decide +kernel)]; kernel_rfl) | (rw [if_neg (by decide +kernel)]; exact ⟨rfl, rfl⟩))
    (fun os started H enc _ => lifted os started H enc)

/-- THE STATEMENT. -/
theorem proved : Rows.LawS3772BFreshSaid := over
#print axioms proved
end Go.Proofs.Ybulkbzcc.lawS3772BFresh
