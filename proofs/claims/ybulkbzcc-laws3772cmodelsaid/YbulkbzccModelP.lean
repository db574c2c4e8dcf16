import Derived.Test.YbulkbzccModelW
import Derived.Test.YbulkbzccOpen
import Derived.ShutString
import Derived.ChangeOld
import Derived.OpenShut
namespace Go.Proofs.Ybulkbzcc.lawS3772CModel
open Go.ChangeShapes Go.WideShapes Go.ChangeAt Go.RowKit Go.Deep
set_option linter.unusedVariables false

theorem own : ownKnob Yba.prog.godebug = none := by kernel_rfl
theorem laidOut : laidOutB Yba.prog = true := by kernel_rfl

theorem one44 (wx : World) : (sizeOf 44).run Yba.prog wx = .ok 1 wx := by kernel_rfl
theorem one4 (wx : World) : (sizeOf 4).run Yba.prog wx = .ok 1 wx := by kernel_rfl
theorem one2 (wx : World) : (sizeOf 2).run Yba.prog wx = .ok 1 wx := by kernel_rfl

set_option maxRecDepth 100000 in
theorem long (n ci : Nat) (ai : Option Addr) (fs ss : Value) (pick raw : Int) (w : World) (hn : 1024 < n) (hm : n ≤ maxLen) :
    Calls Yba.prog 5 #[.slice ai n ci, fs, ss, .int .u8 pick, .int .i8 raw] w fun e w' => e = .returned (.bool true) ∧ Below w.heap.size w w' := by
  unfold maxLen at hm
  have hd : (1024 : Int) < (n : Int) := by omega
  go_enter Yba.func5, Yba.ntmps5
  go_wp2
  go_ret
  exact ⟨rfl, Below.refl _ _⟩

set_option maxRecDepth 100000 in
theorem lifted (os : Os) (started : os.Started) (H : Type) (enc : TypeId × Value → H) :
    ReturnsInHanded {} Yba.checked os 5 .any (Rows.lawS3772CModelSpec.pre6 enc Yba.prog Yba.f5 Rows.lawS3772CModelRow.domain false) (Rows.lawS3772CModelSpec.post enc Yba.prog Yba.f5 false true false false) := by
  refine returnsInHanded_of_change (C := Yba.checked) own started (by kernel_rfl) Yba.func5
    (ChangeSpec.witness6 (enc := enc) (C := Yba.checked) false ⟨#[], #[.slice none 0 0, .slice none 0 0, .slice none 0 0, .int .u8 0, .int .i8 0], []⟩ 8 (by kernel_rfl) (by kernel_rfl) (by kernel_rfl) (by kernel_rfl)) ?_
  intro W base args ds gs before hval0 hW hcnd _
  have hval : ∀ (j : Nat) t v, Yba.f5.params[j]? = some t → args[j]? = some v → Value.okWide Yba.prog W .any base t v := hval0
  have hW' := hW
  obtain ⟨p, q, hA0, hV, rfl, hfz, hnd⟩ := hW
  have hA : DataW.TrodAll enc Yba.prog W 0 (fun _ => true) true Yba.f5.params.toList args.toList ds p := hA0
  rw [Yba.params5] at hA hval
  obtain ⟨v0, vs0, d0, ds0, p0, q0, hargs, rfl, rfl, h0, r0⟩ := trodAll_cons hA
  obtain ⟨v1, vs1, d1, ds1, p1, q1, rfl, rfl, rfl, h1, r1⟩ := trodAll_cons r0
  obtain ⟨v2, vs2, d2, ds2, p2, q2, rfl, rfl, rfl, h2, r2⟩ := trodAll_cons r1
  obtain ⟨v3, vs3, d3, ds3, p3, q3, rfl, rfl, rfl, h3, r3⟩ := trodAll_cons r2
  obtain ⟨v4, vs4, d4, ds4, p4, q4, rfl, rfl, rfl, h4, r4⟩ := trodAll_cons r3
  obtain ⟨rfl, rfl, rfl⟩ := trodAll_nil r4
  obtain rfl : args = #[v0, v1, v2, v3, v4] := by cases args; simp_all
  obtain ⟨rfl, rfl⟩ := trodVars_none hV
  obtain ⟨a0, len0, cap0, rfl⟩ := okWide_slice Yba.underlying42 (hval 0 42 v0 rfl rfl)
  obtain ⟨a1, len1, cap1, rfl⟩ := okWide_slice Yba.underlying43 (hval 1 43 v1 rfl rfl)
  obtain ⟨a2, len2, cap2, rfl⟩ := okWide_slice Yba.underlying37 (hval 2 37 v2 rfl rfl)
  have k0 := h0
  have k1 := h1
  have k2 := h2
  have lt0 : ∀ x ∈ p0, x.block < W.heap.size := by obtain ⟨m, hm⟩ := k0; exact DataW.trod_lt m _ _ _ hm
  have lt1 : ∀ x ∈ p1, x.block < W.heap.size := by obtain ⟨m, hm⟩ := k1; exact DataW.trod_lt m _ _ _ hm
  have lt2 : ∀ x ∈ p2, x.block < W.heap.size := by obtain ⟨m, hm⟩ := k2; exact DataW.trod_lt m _ _ _ hm
  obtain ⟨It, b0, o0, w0, wf0, m0⟩ : ∃ (It : Nat → Int) (b o : Nat), RowIs Yba.prog 42 W a0 len0 cap0 b o (fun k => .int .i8 (It k)) ∧ (∀ k, (Lit.int .i8 (It k)).wf = true) ∧ len0 ≤ maxLen := by
    obtain ⟨fuel, hf⟩ := h0
    rcases open_ints Yba.underlying42 Yba.underlying44 (by kernel_rfl) hf with ⟨hcs, _⟩ | ⟨x, l, c, zs, hcs, _, hl, hm, hz, _, hcell, hwz⟩
    · simp [Value.cells] at hcs
      obtain ⟨rfl, rfl, rfl⟩ := hcs
      exact ⟨fun _ => 0, 0, 0, rowIs_nil _, fun _ => (by decide : (Lit.int .i8 0).wf = true), by decide⟩
    · simp [Value.cells] at hcs
      obtain ⟨rfl, rfl, rfl⟩ := hcs
      obtain ⟨b, o, hr⟩ := rowIs_some (t := 42) (e := 44) (by kernel_rfl) (by kernel_rfl) one44 (w := W) (a := x) (len := len0) cap0 (g := fun k => .int .i8 (zs.getD k 0)) (fun i hi => hcell i (by simp at hz; omega))
      refine ⟨fun k => zs.getD k 0, b, o, hr, fun k => ?_, by omega⟩
      by_cases hk : k < zs.length
      · simp only [List.getD, List.getElem?_eq_getElem hk, Option.getD_some]
        exact hwz _ (List.getElem_mem hk)
      · simp only [List.getD, List.getElem?_eq_none (Nat.le_of_not_lt hk), Option.getD_none]
        decide
  obtain ⟨Fl, b1, o1, w1, m1⟩ : ∃ (Fl : Nat → Bool) (b o : Nat), RowIs Yba.prog 43 W a1 len1 cap1 b o (fun k => .bool (Fl k)) ∧ len1 ≤ maxLen := by
    obtain ⟨fuel, hf⟩ := h1
    rcases open_slice1 Yba.underlying43 (by kernel_rfl) hf with ⟨hcs, _⟩ | ⟨x, l, c, m, n, V, D, Pl, hcs, _, hl, hm, hmm, _, hV⟩
    · simp [Value.cells] at hcs
      obtain ⟨rfl, rfl, rfl⟩ := hcs
      exact ⟨fun _ => false, 0, 0, rowIs_nil _, by decide⟩
    · simp [Value.cells] at hcs
      obtain ⟨rfl, rfl, rfl⟩ := hcs
      simp only [if_true] at hmm
      have hb : ∀ i, i < len1 → ∃ y, V i = .bool y := fun i hi => by
        obtain ⟨y, hy, _⟩ := DataW.trod_bool Yba.underlying4 (hV i (by omega)).2
        exact ⟨y, by simpa using hy⟩
      obtain ⟨b, o, hr⟩ := rowIs_some (t := 43) (e := 4) (by kernel_rfl) (by kernel_rfl) one4 (w := W) (a := x) (len := len1) cap1 (g := fun k => .bool (match V k with | .bool y => y | _ => false)) (fun i hi => by
        obtain ⟨y, hy⟩ := hb i hi
        rw [(hV i (by omega)).1, hy])
      exact ⟨fun k => (match V k with | .bool y => y | _ => false), b, o, hr, by omega⟩
  obtain ⟨Si, b2, o2, w2, m2⟩ : ∃ (Si : Nat → Int) (b o : Nat), RowIs Yba.prog 37 W a2 len2 cap2 b o (fun k => .int .i64 (Si k)) ∧ len2 ≤ maxLen := by
    obtain ⟨fuel, hf⟩ := h2
    rcases open_ints Yba.underlying37 Yba.underlying2 (by kernel_rfl) hf with ⟨hcs, _⟩ | ⟨x, l, c, zs, hcs, _, hl, hm, hz, _, hcell, hwz⟩
    · simp [Value.cells] at hcs
      obtain ⟨rfl, rfl, rfl⟩ := hcs
      exact ⟨fun _ => 0, 0, 0, rowIs_nil _, by decide⟩
    · simp [Value.cells] at hcs
      obtain ⟨rfl, rfl, rfl⟩ := hcs
      obtain ⟨b, o, hr⟩ := rowIs_some (t := 37) (e := 2) (by kernel_rfl) (by kernel_rfl) one2 (w := W) (a := x) (len := len2) cap2 (g := fun k => .int .i64 (zs.getD k 0)) (fun i hi => hcell i (by simp at hz; omega))
      exact ⟨fun k => zs.getD k 0, b, o, hr, by omega⟩
  obtain ⟨a3, rfl, rfl, rfl, w3⟩ := open_int Yba.underlying5 (hval 3 5 v3 rfl rfl) h3
  obtain ⟨a4, rfl, rfl, rfl, w4⟩ := open_int Yba.underlying44 (hval 4 44 v4 rfl rfl) h4
  clear hA0 hval0
  have fin : ∀ (e : Ending) (W' : World), (e = .returned (.bool true) ∧ Below W.heap.size W W') → ∃ v, e = .returned v ∧ Rows.lawS3772CModelSpec.post enc Yba.checked.prog Yba.f5 false true false false W #[.slice a0 len0 cap0, .slice a1 len1 cap1, .slice a2 len2 cap2, .int .u8 a3, .int .i8 a4] v W' := by
    rintro e W' ⟨he, bel⟩
    subst he
    exact ⟨_, rfl, _, _, _, [], _, [], hW', trodAll_mk1 (shut_bool Yba.underlying4 _), (trodAll_cons_mk (Below.trod laidOut (by kernel_rfl) (of_decide_eq_true (by kernel_rfl)) k0 bel lt0) (trodAll_cons_mk (Below.trod laidOut (by kernel_rfl) (of_decide_eq_true (by kernel_rfl)) k1 bel lt1) (trodAll_cons_mk (Below.trod laidOut (by kernel_rfl) (of_decide_eq_true (by kernel_rfl)) k2 bel lt2) (trodAll_cons_mk (shut_int Yba.underlying5 w3) (trodAll_cons_mk (shut_int Yba.underlying44 w4) trodAll_mk0))))), rfl, bel.frame _, fun h => by cases h⟩
  by_cases hl : len0 ≤ 1024
  · refine (model_walk len0 cap0 b0 o0 len1 cap1 b1 o1 len2 cap2 b2 o2 a0 a1 a2 It Fl Si a3 a4 W w0 w1 w2 wf0 w4 ?_ hl m1 m2).mono fin
    have := bounds_u8 w3
    omega
  · exact (long len0 cap0 a0 _ _ a3 a4 W (by omega) m0).mono fin

theorem over : Rows.lawS3772CModelRow.holds Yba.pinned (OpenSpec.ofChange Rows.lawS3772CModelSpec) :=
  OpenClaim.holds_of_wide 5 Yba.f5 rfl rfl rfl rfl rfl rfl rfl ⟨rfl, rfl, rfl, rfl, rfl⟩ rfl rfl rfl rfl rfl (by kernel_rfl) Yba.func5 (by kernel_rfl)
    (of_decide_eq_true (by kernel_rfl)) (by unfold Func.isWrapper; first | (rw [if_pos (by decide +kernel)]; kernel_rfl) | (rw [if_neg (by decide +kernel)]; exact ⟨rfl, rfl⟩))
    (fun os started H enc _ => lifted os started H enc)

/-- THE STATEMENT. -/
theorem proved : Rows.LawS3772CModelSaid := over
#print axioms proved
end Go.Proofs.Ybulkbzcc.lawS3772CModel
