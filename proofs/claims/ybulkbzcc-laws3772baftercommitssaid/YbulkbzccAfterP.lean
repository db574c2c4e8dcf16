/-
  LawS3772BAfterCommits: the statement.
-/
import Derived.Test.YbulkbzccAfterW
import Derived.ShutString
import Derived.ChangeOld
import Derived.ChangeSame
import Derived.OpenShut
import Derived.SizedLaws
import Derived.Deep.Strs
namespace Go.Proofs.Ybulkbzcc.lawS3772BAfterCommits
open Go.ChangeShapes Go.WideShapes Go.ChangeAt Go.RowKit Go.Deep
set_option linter.unusedVariables false

theorem own : ownKnob Yba.prog.godebug = none := by kernel_rfl
theorem laidOut : laidOutB Yba.prog = true := by kernel_rfl
theorem one22 (wx : World) : (sizeOf 22).run Yba.prog wx = .ok 1 wx := by kernel_rfl
theorem one36 (wx : World) : (sizeOf 36).run Yba.prog wx = .ok 1 wx := by kernel_rfl
theorem cells36 : Yba.prog.cellsOf 36 = 1 := by kernel_rfl
theorem cells24 : Yba.prog.cellsOf 24 = 1 := by kernel_rfl
theorem bytes22 : Yba.prog.bytesOf 22 = 2 := by kernel_rfl

/-- A slice of uint16, opened. -/
theorem openU {H : Type} {enc : TypeId × Value → H} {W : World} {fuel : Nat} {v : Value} {x : DataW H × List MemPlace} (h : DataW.trod enc Yba.prog W 0 (fun _ => true) true fuel 24 [v] = some x) :
    ∃ a len cap, v = .slice a len cap ∧ ∃ (It : Nat → Int) (b o : Nat), RowIs Yba.prog 24 W a len cap b o (fun k => .int .u16 (It k)) ∧ (∀ k, (Lit.int .u16 (It k)).wf = true) ∧ len ≤ maxLen ∧ (len = 0 ∨ ∃ es sp, x.1 = .slice es sp ∧ es.length = len) := by
  rcases open_ints Yba.underlying24 Yba.underlying22 (by kernel_rfl) h with ⟨hcs, _⟩ | ⟨y, l, c, zs, hcs, _, hl, hm, hz, hx, hcell, hwz⟩
  · simp at hcs
    exact ⟨none, 0, 0, hcs, fun _ => 0, 0, 0, rowIs_nil _, fun _ => (by decide : (Lit.int .u16 0).wf = true), by decide, .inl rfl⟩
  · simp at hcs
    simp only [if_true] at hz
    obtain ⟨b, o, hr⟩ := rowIs_some (t := 24) (e := 22) (by kernel_rfl) (by kernel_rfl) one22 (w := W) (a := y) (len := l) c (g := fun k => .int .u16 (zs.getD k 0)) (fun i hi => hcell i (by omega))
    refine ⟨some y, l, c, hcs, fun k => zs.getD k 0, b, o, hr, fun k => ?_, by omega, .inr ⟨_, _, by rw [hx], by simp [lits]; omega⟩⟩
    by_cases hk : k < zs.length
    · simp only [List.getD, List.getElem?_eq_getElem hk, Option.getD_some]
      exact hwz _ (List.getElem_mem hk)
    · simp only [List.getD, List.getElem?_eq_none (Nat.le_of_not_lt hk), Option.getD_none]
      decide

theorem mem_weightsAll {H : Type} {P : Program} {e : TypeId} : ∀ {l : List (DataW H)} {k : Nat} {d : DataW H}, l[k]? = some d → ∀ n ∈ d.weights P e, n ∈ DataW.weightsAll P e l
  | [], _, _, h, _, _ => by simp at h
  | d0 :: l, 0, d, h, n, hn => by
    simp at h
    subst h
    simp only [DataW.weightsAll, List.mem_append]
    exact .inl hn
  | d0 :: l, k + 1, d, h, n, hn => by
    simp at h
    simp only [DataW.weightsAll, List.mem_append]
    exact .inr (mem_weightsAll h n hn)

/-- What is known of one step. -/
structure Step (H : Type) (W : World) (d : DataW H) (v : Value) (y : (Option Addr × Nat × Nat) × (Nat → Int) × Nat × Nat) : Prop where
  v : v = .slice y.1.1 y.1.2.1 y.1.2.2
  row : RowIs Yba.prog 24 W y.1.1 y.1.2.1 y.1.2.2 y.2.2.1 y.2.2.2 (fun j => .int .u16 (y.2.1 j))
  wf : ∀ j, (Lit.int .u16 (y.2.1 j)).wf = true
  data : y.1.2.1 = 0 ∨ ∃ es sp, d = .agg [.slice es sp] ∧ es.length = y.1.2.1

theorem openStep {H : Type} {enc : TypeId × Value → H} {W : World} {fuel : Nat} {v : Value} {x : DataW H × List MemPlace} (h : DataW.trod enc Yba.prog W 0 (fun _ => true) true fuel 36 [v] = some x) : ∃ y, Step H W x.1 v y := by
  obtain ⟨y0, n, hx, hl, hy⟩ := trod_struct1 Yba.underlying36 h
  simp only [cells24, List.drop_zero, List.take_succ_cons, List.take_zero] at hy
  obtain ⟨a, len, cap, hv, It, b, o, hr, hwf, _, hd⟩ := openU hy
  refine ⟨((a, len, cap), It, b, o), hv, hr, hwf, ?_⟩
  rcases hd with h0 | ⟨es, sp, he, hlen⟩
  · exact .inl h0
  · exact .inr ⟨es, sp, by rw [hx, he], hlen⟩

theorem openSteps {H : Type} {enc : TypeId × Value → H} {W : World} {a : Option Addr} {len cap : Nat} {d : DataW H} {p : List MemPlace} (h : DataW.Trod enc Yba.prog W 0 (fun _ => true) true 34 (.slice a len cap) d p) :
    ∃ (Y : Nat → (Option Addr × Nat × Nat) × (Nat → Int) × Nat × Nat) (b o : Nat), RowIs Yba.prog 34 W a len cap b o (fun k => .slice (Y k).1.1 (Y k).1.2.1 (Y k).1.2.2) ∧ len ≤ maxLen ∧
      ∀ k, k < len → RowIs Yba.prog 24 W (Y k).1.1 (Y k).1.2.1 (Y k).1.2.2 (Y k).2.2.1 (Y k).2.2.2 (fun j => .int .u16 ((Y k).2.1 j)) ∧ (∀ j, (Lit.int .u16 ((Y k).2.1 j)).wf = true) ∧
        ((Y k).1.2.1 = 0 ∨ ∃ el sp0 es sp, d = .slice el sp0 ∧ el[k]? = some (.agg [.slice es sp]) ∧ es.length = (Y k).1.2.1) := by
  obtain ⟨fuel, hf⟩ := h
  rcases open_slice1 Yba.underlying34 cells36 hf with ⟨hcs, _⟩ | ⟨x, l, c, m, n, V, D, Pl, hcs, _, hl, hm, hmm, hx, hV⟩
  · simp [Value.cells] at hcs
    obtain ⟨rfl, rfl, rfl⟩ := hcs
    exact ⟨fun _ => ((none, 0, 0), fun _ => 0, 0, 0), 0, 0, rowIs_nil _, by decide, fun k hk => by omega⟩
  · simp [Value.cells] at hcs
    obtain ⟨rfl, rfl, rfl⟩ := hcs
    simp only [if_true] at hmm
    obtain ⟨Y, hY⟩ := choose_lt (n := len) (p := fun i y => Step H W (D i) (V i) y) (fun i hi => openStep (hV i (by omega)).2)
    obtain ⟨b, o, hr⟩ := rowIs_some (t := 34) (e := 36) (by kernel_rfl) (by kernel_rfl) one36 (w := W) (a := x) (len := len) cap (g := fun k => .slice (Y k).1.1 (Y k).1.2.1 (Y k).1.2.2) (fun i hi => by rw [(hV i (by omega)).1, (hY i hi).v])
    refine ⟨Y, b, o, hr, by omega, fun k hk => ⟨(hY k hk).row, (hY k hk).wf, ?_⟩⟩
    rcases (hY k hk).data with h0 | ⟨es, sp, he, hlen⟩
    · exact .inl h0
    · simp only [Prod.mk.injEq] at hx
      exact .inr ⟨_, _, es, sp, hx.1, by simp [hk, he], hlen⟩

set_option maxRecDepth 100000 in
theorem long1 (ns cs ni ci : Nat) (as_ ai : Option Addr) (n : Int) (w : World) (hn : 1024 < ns) (hm : ns ≤ maxLen) :
    Calls Yba.prog 4 #[.int .u16 n, .slice as_ ns cs, .slice ai ni ci] w fun e w' => e = .returned (.bool true) ∧ Below w.heap.size w w' := by
  unfold maxLen at hm
  have hd : decide ((1024 : Int) < (ns : Int)) = true := by simp; omega
  go_enter Yba.func4, Yba.ntmps4
  go_wp2
  go_ret
  exact ⟨rfl, Below.refl _ _⟩

set_option maxRecDepth 100000 in
theorem long2 (ns cs ni ci : Nat) (as_ ai : Option Addr) (n : Int) (w : World) (hn : ns ≤ 1024) (hn2 : 1024 < ni) (hm : ni ≤ maxLen) :
    Calls Yba.prog 4 #[.int .u16 n, .slice as_ ns cs, .slice ai ni ci] w fun e w' => e = .returned (.bool true) ∧ Below w.heap.size w w' := by
  unfold maxLen at hm
  have hd : decide ((1024 : Int) < (ns : Int)) = false := by simp; omega
  have hd2 : decide ((1024 : Int) < (ni : Int)) = true := by simp; omega
  go_enter Yba.func4, Yba.ntmps4
  go_wp2
  go_ret
  exact ⟨rfl, Below.refl _ _⟩

set_option maxRecDepth 100000 in
theorem lifted (os : Os) (started : os.Started) (H : Type) (enc : TypeId × Value → H) :
    ReturnsInHanded {} Yba.checked os 4 .any (Rows.lawS3772BAfterCommitsSpec.pre6 enc Yba.prog Yba.f4 Rows.lawS3772BAfterCommitsRow.domain false) (Rows.lawS3772BAfterCommitsSpec.post enc Yba.prog Yba.f4 false true false false) := by
  refine returnsInHanded_of_change_sized (C := Yba.checked) own started (by kernel_rfl) Yba.func4
    (ChangeSpec.witness6 (enc := enc) (C := Yba.checked) false ⟨#[], #[.int .u16 0, .slice none 0 0, .slice none 0 0], []⟩ 8 (by kernel_rfl) (by kernel_rfl) (by kernel_rfl) (by kernel_rfl)) ?_
  intro W base args ds gs before hval0 hW hcnd hsz0 _
  have hval : ∀ (j : Nat) t v, Yba.f4.params[j]? = some t → args[j]? = some v → Value.okWide Yba.prog W .any base t v := hval0
  have hsz : (DataW.weightsEach Yba.prog (Yba.f4.params.toList ++ Rows.lawS3772BAfterCommitsSpec.plain.varTypes Yba.prog) (ds ++ gs)).all (· ≤ reachBytes) = true := hsz0
  have hW' := hW
  obtain ⟨p, q, hA0, hV, rfl, hfz, hnd⟩ := hW
  have hA : DataW.TrodAll enc Yba.prog W 0 (fun _ => true) true Yba.f4.params.toList args.toList ds p := hA0
  rw [Yba.params4] at hA hval hsz
  obtain ⟨v0, vs0, d0, ds0, p0, q0, hargs, rfl, rfl, h0, r0⟩ := trodAll_cons hA
  obtain ⟨v1, vs1, d1, ds1, p1, q1, rfl, rfl, rfl, h1, r1⟩ := trodAll_cons r0
  obtain ⟨v2, vs2, d2, ds2, p2, q2, rfl, rfl, rfl, h2, r2⟩ := trodAll_cons r1
  obtain ⟨rfl, rfl, rfl⟩ := trodAll_nil r2
  obtain rfl : args = #[v0, v1, v2] := by cases args; simp_all
  obtain ⟨rfl, rfl⟩ := trodVars_none hV
  obtain ⟨a1, len1, cap1, rfl⟩ := okWide_slice Yba.underlying34 (hval 1 34 v1 rfl rfl)
  obtain ⟨a2, len2, cap2, rfl⟩ := okWide_slice Yba.underlying24 (hval 2 24 v2 rfl rfl)
  have k1 := h1
  have k2 := h2
  have lt1 : ∀ x ∈ p1, x.block < W.heap.size := by obtain ⟨m, hm⟩ := k1; exact DataW.trod_lt m _ _ _ hm
  have lt2 : ∀ x ∈ p2, x.block < W.heap.size := by obtain ⟨m, hm⟩ := k2; exact DataW.trod_lt m _ _ _ hm
  obtain ⟨a0, rfl, rfl, rfl, w0⟩ := open_int Yba.underlying22 (hval 0 22 v0 rfl rfl) h0
  obtain ⟨Y, b1, o1, w1, m1, y1⟩ := openSteps h1
  obtain ⟨It, b2, o2, w2, wf2, m2⟩ : ∃ (It : Nat → Int) (b o : Nat), RowIs Yba.prog 24 W a2 len2 cap2 b o (fun k => .int .u16 (It k)) ∧ (∀ k, (Lit.int .u16 (It k)).wf = true) ∧ len2 ≤ maxLen := by
    obtain ⟨fuel, hf⟩ := h2
    obtain ⟨a, l, c, he, It, b, o, hr, hwf, hm, _⟩ := openU (v := .slice a2 len2 cap2) (by simpa [Value.cells] using hf)
    simp at he
    obtain ⟨rfl, rfl, rfl⟩ := he
    exact ⟨It, b, o, hr, hwf, hm⟩
  have hlen : ∀ k, k < len1 → (Y k).1.2.1 ≤ 4611686018427387904 := fun k hk => by
    rcases (y1 k hk).2.2 with h | ⟨el, sp0, es, sp, hd, he, hl⟩
    · omega
    · have hm := List.all_eq_true.1 hsz ((es.length + sp.length) * Yba.prog.bytesOf 22) (DataW.weights_mem_each (j := 1) (t := 34) (d := d1) rfl rfl _ (by
        rw [hd]
        simp only [DataW.weights, Yba.underlying34]
        refine List.mem_cons_of_mem _ (List.mem_append_left _ (mem_weightsAll he _ ?_))
        simp [DataW.weights, DataW.weightsEach, Yba.underlying36, Yba.underlying24]))
      rw [bytes22] at hm
      have hm2 : (es.length + sp.length) * 2 ≤ reachBytes := of_decide_eq_true hm
      unfold reachBytes at hm2
      omega
  clear hA0 hval0
  have fin : ∀ (e : Ending) (W' : World), (e = .returned (.bool true) ∧ Below W.heap.size W W') → ∃ v, e = .returned v ∧ Rows.lawS3772BAfterCommitsSpec.post enc Yba.checked.prog Yba.f4 false true false false W #[.int .u16 a0, .slice a1 len1 cap1, .slice a2 len2 cap2] v W' := by
    rintro e W' ⟨he, bel⟩
    subst he
    exact ⟨_, rfl, _, _, _, [], _, [], hW', trodAll_mk1 (shut_bool Yba.underlying4 _), (trodAll_cons_mk (shut_int Yba.underlying22 w0) (trodAll_cons_mk (Below.trod laidOut (by kernel_rfl) (of_decide_eq_true (by kernel_rfl)) k1 bel lt1) (trodAll_cons_mk (Below.trod laidOut (by kernel_rfl) (of_decide_eq_true (by kernel_rfl)) k2 bel lt2) trodAll_mk0))), rfl, bel.frame _, fun h => by cases h⟩
  by_cases hl : len1 ≤ 1024
  · by_cases hl2 : len2 ≤ 1024
    · have b0 := bounds_u16 w0
      -- beyond the steps nothing is known of Y: take noughts there
      have hbx : ∀ k j, 0 ≤ (if k < len1 then (Y k).2.1 j else 0) ∧ (if k < len1 then (Y k).2.1 j else 0) ≤ 65535 := fun k j => by
        by_cases hk : k < len1
        · have := bounds_u16 ((y1 k hk).2.1 j)
          simp only [hk, if_true]
          exact this
        · simp [hk]
      refine (after_walk a0 len1 cap1 b1 o1 len2 cap2 b2 o2 a1 a2 (fun k => (Y k).1.1) (fun k => (Y k).1.2.1) (fun k => (Y k).1.2.2) (fun k => (Y k).2.2.1) (fun k => (Y k).2.2.2) (fun k j => if k < len1 then (Y k).2.1 j else 0) It W (by omega) (by omega) w1 (fun k hk => ?_) (fun k j => (hbx k j).1) (fun k j => (hbx k j).2) hlen w2 (fun k => (bounds_u16 (wf2 k)).1) (fun k => (bounds_u16 (wf2 k)).2) hl hl2).mono fin
      simp only [hk, if_true]
      exact (y1 k hk).1
    · exact (long2 len1 cap1 len2 cap2 a1 a2 a0 W hl (by omega) m2).mono fin
  · exact (long1 len1 cap1 len2 cap2 a1 a2 a0 W (by omega) m1).mono fin

theorem over : Rows.lawS3772BAfterCommitsRow.holds Yba.pinned (OpenSpec.ofChange Rows.lawS3772BAfterCommitsSpec) :=
  OpenClaim.holds_of_wide 4 Yba.f4 rfl rfl rfl rfl rfl rfl rfl ⟨rfl, rfl, rfl, rfl, rfl⟩ rfl rfl rfl rfl rfl (by kernel_rfl) Yba.func4 (by kernel_rfl)
    (of_decide_eq_true (by kernel_rfl)) (by unfold Func.isWrapper; first | (rw [if_pos (by decide +kernel)]; kernel_rfl) | (rw [if_neg (by decide +kernel)]; exact ⟨rfl, rfl⟩))
    (fun os started H enc _ => lifted os started H enc)

/-- THE STATEMENT. -/
theorem proved : Rows.LawS3772BAfterCommitsSaid := over
#print axioms proved
end Go.Proofs.Ybulkbzcc.lawS3772BAfterCommits
