/-
  LawS3782BDrop: the statement.
-/
import Derived.Test.YbulkbzhmLaw
import Derived.ProofKit
import Derived.ShutString
import Derived.ChangeOld
import Derived.ChangeSame
import Derived.OpenShut
import Derived.SizedLaws
import Derived.Deep.Strs
import Derived.Deep.Slices
namespace Go.Proofs.Ybulkbzhm.lawS3782BDrop
open Go.ChangeShapes Go.WideShapes Go.ChangeAt Go.RowKit Go.Deep
set_option linter.unusedVariables false

theorem own : ownKnob Yba.prog.godebug = none := by kernel_rfl
theorem laidOut : laidOutB Yba.prog = true := by kernel_rfl
theorem cells83 : Yba.prog.cellsOf 83 = 5 := by kernel_rfl
theorem cells5 : Yba.prog.cellsOf 5 = 1 := by kernel_rfl
theorem cells81 : Yba.prog.cellsOf 81 = 1 := by kernel_rfl

/-- What is known of one step. -/
structure Step (cs : List Value) (y : Nat → Nat) : Prop where
  v : cs = [.int .u8 (y 0 : Int), .int .u8 (y 1 : Int), .int .u8 (y 2 : Int), .int .u8 (y 3 : Int), .int .u16 (y 4 : Int)]
  le : ∀ j, j < 4 → y j ≤ 255

set_option maxRecDepth 100000 in
theorem openStep {H : Type} {enc : TypeId × Value → H} {W : World} {fuel : Nat} {cs : List Value} {x : DataW H × List MemPlace} (h : DataW.trod enc Yba.prog W 0 (fun _ => true) true fuel 83 cs = some x) : ∃ y, Step cs y := by
  obtain ⟨xs, n, _, rfl, hl, hlen, hf⟩ := DataW.trod_struct Yba.underlying83 h
  rw [cells83] at hl
  match cs, hl with
  | [c0, c1, c2, c3, c4], _ =>
    match xs, hlen with
    | [y0, y1, y2, y3, y4], _ =>
      have g0 := hf 0 { name := "Op", type := 5, offset := 0, embedded := false, tag := "", pkgPath := "", byteOffset := 0 } rfl
      dsimp only at g0
      rw [cells5] at g0
      have h0 : DataW.trod enc Yba.prog W 0 (fun _ => true) true n 5 [c0] = some y0 := g0
      have g1 := hf 1 { name := "T", type := 5, offset := 1, embedded := false, tag := "", pkgPath := "", byteOffset := 1 } rfl
      dsimp only at g1
      rw [cells5] at g1
      have h1 : DataW.trod enc Yba.prog W 0 (fun _ => true) true n 5 [c1] = some y1 := g1
      have g2 := hf 2 { name := "L", type := 5, offset := 2, embedded := false, tag := "", pkgPath := "", byteOffset := 2 } rfl
      dsimp only at g2
      rw [cells5] at g2
      have h2 : DataW.trod enc Yba.prog W 0 (fun _ => true) true n 5 [c2] = some y2 := g2
      have g3 := hf 3 { name := "A", type := 5, offset := 3, embedded := false, tag := "", pkgPath := "", byteOffset := 3 } rfl
      dsimp only at g3
      rw [cells5] at g3
      have h3 : DataW.trod enc Yba.prog W 0 (fun _ => true) true n 5 [c3] = some y3 := g3
      have g4 := hf 4 { name := "Since", type := 81, offset := 4, embedded := false, tag := "", pkgPath := "", byteOffset := 4 } rfl
      dsimp only at g4
      rw [cells81] at g4
      have h4 : DataW.trod enc Yba.prog W 0 (fun _ => true) true n 81 [c4] = some y4 := g4
      obtain ⟨n0, e0, -, w0⟩ := DataW.trod_int Yba.underlying5 h0
      obtain ⟨n1, e1, -, w1⟩ := DataW.trod_int Yba.underlying5 h1
      obtain ⟨n2, e2, -, w2⟩ := DataW.trod_int Yba.underlying5 h2
      obtain ⟨n3, e3, -, w3⟩ := DataW.trod_int Yba.underlying5 h3
      obtain ⟨n4, e4, -, w4⟩ := DataW.trod_int Yba.underlying81 h4
      simp only [List.cons.injEq, and_true] at e0 e1 e2 e3 e4
      subst e0 e1 e2 e3 e4
      have b0 := bounds_u8 w0
      have b1 := bounds_u8 w1
      have b2 := bounds_u8 w2
      have b3 := bounds_u8 w3
      have b4 := bounds_u16 w4
      refine ⟨fun j => if j = 0 then n0.toNat else if j = 1 then n1.toNat else if j = 2 then n2.toNat else if j = 3 then n3.toNat else n4.toNat, ?_, fun j hj => ?_⟩
      · simp only [Nat.reduceEqDiff, if_true, if_false]
        rw [Int.toNat_of_nonneg b0.1, Int.toNat_of_nonneg b1.1, Int.toNat_of_nonneg b2.1, Int.toNat_of_nonneg b3.1, Int.toNat_of_nonneg b4.1]
      · rcases (by omega : j = 0 ∨ j = 1 ∨ j = 2 ∨ j = 3) with rfl | rfl | rfl | rfl <;> simp <;> omega

theorem openSteps [Base] {H : Type} {enc : TypeId × Value → H} {W : World} {a : Option Addr} {len cap : Nat} {d : DataW H} {p : List MemPlace} (hW : Base.n = W.heap.size) (h : DataW.Trod enc Yba.prog W 0 (fun _ => true) true 22 (.slice a len cap) d p) :
    len ≤ maxLen ∧ ∃ f : Nat → Nat → Nat, StepsIs W a len f ∧ ∀ i j, j < 4 → f i j ≤ 255 := by
  obtain ⟨fuel, hf⟩ := h
  rcases open_slice Yba.underlying22 hf with ⟨hcs, _⟩ | ⟨x, l, c, m, n, D, Pl, hcs, _, hl, hm, hmm, hx, hV⟩
  · simp [Value.cells] at hcs
    obtain ⟨rfl, rfl, rfl⟩ := hcs
    exact ⟨by decide, fun _ _ => 0, fun h => absurd h (Nat.lt_irrefl 0), fun _ _ _ => Nat.zero_le _⟩
  · simp [Value.cells] at hcs
    obtain ⟨rfl, rfl, rfl⟩ := hcs
    simp only [if_true] at hmm
    have hex : ∀ i, ∃ y : Nat → Nat, (∀ j, j < 4 → y j ≤ 255) ∧ (i < len → W.cells? 0 (x.add (i * 5)) 5 = some [.int .u8 (y 0 : Int), .int .u8 (y 1 : Int), .int .u8 (y 2 : Int), .int .u8 (y 3 : Int), .int .u16 (y 4 : Int)]) := fun i => by
      by_cases hi : i < len
      · obtain ⟨cs', h1, h2⟩ := hV i (by omega)
        obtain ⟨y, hy⟩ := openStep h2
        rw [cells83, hy.v] at h1
        exact ⟨y, hy.le, fun _ => h1⟩
      · exact ⟨fun _ => 0, fun _ _ => Nat.zero_le _, fun h => absurd h hi⟩
    obtain ⟨f, hf⟩ := Classical.skolem.1 hex
    refine ⟨by omega, f, fun h0 => ?_, fun i j hj => (hf i).1 j hj⟩
    obtain ⟨b, o, spot⟩ := x
    have hc : ∀ i, i < len → ∀ j, j < 5 → W.cell? ((Addr.add ⟨b, o, spot⟩ (i * 5)).add j) = [Value.int .u8 (f i 0 : Int), .int .u8 (f i 1 : Int), .int .u8 (f i 2 : Int), .int .u8 (f i 3 : Int), .int .u16 (f i 4 : Int)][j]? := fun i hi => (World.cells?_some ((hf i).2 hi)).2.2
    have hsp : spot = none := by
      have := hc 0 h0 0 (by omega)
      simpa [Addr.add] using World.cell?_spot this
    subst hsp
    have hb : b < W.heap.size := by
      have := hc 0 h0 0 (by omega)
      rw [add_plain, add_plain] at this
      exact World.block_lt_of_cell? _ _ this
    refine ⟨b, o, rfl, by rw [hW]; exact hb, hb, fun i hi => ?_⟩
    have c0 := hc i hi 0 (by omega)
    have c1 := hc i hi 1 (by omega)
    have c2 := hc i hi 2 (by omega)
    have c3 := hc i hi 3 (by omega)
    have c4 := hc i hi 4 (by omega)
    rw [add_plain, add_plain] at c0 c1 c2 c3 c4
    exact ⟨c0, c1, c2, c3, c4⟩

theorem Ch.toBelow [Base] {E : TypeId → Prop} {w w' : World} (h : Ch E w w') (hB : Base.n = w.heap.size) : Below w.heap.size w w' :=
  ⟨h.os, h.tape, h.output, h.size, fun k hk => by
    have h1 : w.heap[k]? = some w.heap[k] := Array.getElem?_eq_getElem hk
    rw [h1]
    exact h.low k _ (by rw [hB]; exact hk) h1⟩

set_option maxRecDepth 100000 in
theorem long (n cap : Nat) (a : Option Addr) (t l : Int) (w : World) (hn : 512 < n) (hm : n ≤ maxLen) :
    Calls Yba.prog 3 #[.slice a n cap, .int .u8 t, .int .u8 l] w fun e w' => e = .returned (.bool true) ∧ Below w.heap.size w w' := by
  unfold maxLen at hm
  have hd : decide ((512 : Int) < (n : Int)) = true := by simp; omega
  go_enter Yba.func3, Yba.ntmps3
  go_wp2
  go_ret
  exact ⟨rfl, Below.refl _ _⟩

theorem short (n cap : Nat) (a : Option Addr) (t l : Int) (w : World) {H : Type} {enc : TypeId × Value → H} {d : DataW H} {p : List MemPlace} (h : DataW.Trod enc Yba.prog w 0 (fun _ => true) true 22 (.slice a n cap) d p) (hn : n ≤ 512) (ht : (Lit.int .u8 t).wf = true) (hl : (Lit.int .u8 l).wf = true) :
    Calls Yba.prog 3 #[.slice a n cap, .int .u8 t, .int .u8 l] w fun e w' => e = .returned (.bool true) ∧ Below w.heap.size w w' := by
  letI : Base := ⟨w.heap.size⟩
  have bt := bounds_u8 ht
  have bl := bounds_u8 hl
  obtain ⟨_, f, hs, hf⟩ := openSteps (W := w) rfl h
  have et : t = ((t.toNat : Nat) : Int) := (Int.toNat_of_nonneg bt.1).symm
  have el : l = ((l.toNat : Nat) : Int) := (Int.toNat_of_nonneg bl.1).symm
  rw [et, el]
  refine (law_walk (cap := cap) t.toNat l.toNat (by omega) (by omega) hs hf hn (Nat.le_refl _)).mono ?_
  rintro e w' ⟨rfl, hc⟩
  exact ⟨rfl, Ch.toBelow hc rfl⟩

set_option maxRecDepth 100000 in
theorem lifted (os : Os) (started : os.Started) (H : Type) (enc : TypeId × Value → H) :
    ReturnsInHanded {} Yba.checked os 3 .any (Rows.lawS3782BDropSpec.pre6 enc Yba.prog Yba.f3 Rows.lawS3782BDropRow.domain false) (Rows.lawS3782BDropSpec.post enc Yba.prog Yba.f3 false true false false) := by
  refine returnsInHanded_of_change_sized (C := Yba.checked) own started (by kernel_rfl) Yba.func3
    (ChangeSpec.witness6 (enc := enc) (C := Yba.checked) false ⟨#[], #[.slice none 0 0, .int .u8 0, .int .u8 0], []⟩ 8 (by kernel_rfl) (by kernel_rfl) (by kernel_rfl) (by kernel_rfl)) ?_
  intro W base args ds gs before hval0 hW hcnd hsz0 _
  have hval : ∀ (j : Nat) t v, Yba.f3.params[j]? = some t → args[j]? = some v → Value.okWide Yba.prog W .any base t v := hval0
  have hW' := hW
  obtain ⟨p, q, hA0, hV, rfl, hfz, hnd⟩ := hW
  have hA : DataW.TrodAll enc Yba.prog W 0 (fun _ => true) true Yba.f3.params.toList args.toList ds p := hA0
  rw [Yba.params3] at hA hval
  obtain ⟨v0, vs0, d0, ds0, p0, q0, hargs, rfl, rfl, h0, r0⟩ := trodAll_cons hA
  obtain ⟨v1, vs1, d1, ds1, p1, q1, rfl, rfl, rfl, h1, r1⟩ := trodAll_cons r0
  obtain ⟨v2, vs2, d2, ds2, p2, q2, rfl, rfl, rfl, h2, r2⟩ := trodAll_cons r1
  obtain ⟨rfl, rfl, rfl⟩ := trodAll_nil r2
  obtain rfl : args = #[v0, v1, v2] := by cases args; simp_all
  obtain ⟨rfl, rfl⟩ := trodVars_none hV
  obtain ⟨a0, len0, cap0, rfl⟩ := okWide_slice Yba.underlying22 (hval 0 22 v0 rfl rfl)
  have k0 := h0
  have lt0 : ∀ x ∈ p0, x.block < W.heap.size := by obtain ⟨m, hm⟩ := k0; exact DataW.trod_lt m _ _ _ hm
  obtain ⟨n1, rfl, rfl, rfl, w1⟩ := open_int Yba.underlying5 (hval 1 5 v1 rfl rfl) h1
  obtain ⟨n2, rfl, rfl, rfl, w2⟩ := open_int Yba.underlying5 (hval 2 5 v2 rfl rfl) h2
  clear hA0 hval0
  have fin : ∀ (e : Ending) (W' : World), (e = .returned (.bool true) ∧ Below W.heap.size W W') → ∃ v, e = .returned v ∧ Rows.lawS3782BDropSpec.post enc Yba.checked.prog Yba.f3 false true false false W #[.slice a0 len0 cap0, .int .u8 n1, .int .u8 n2] v W' := by
    rintro e W' ⟨he, bel⟩
    subst he
    exact ⟨_, rfl, _, _, _, [], _, [], hW', trodAll_mk1 (shut_bool Yba.underlying4 _), (trodAll_cons_mk (Below.trod laidOut (by kernel_rfl) (of_decide_eq_true (by kernel_rfl)) k0 bel lt0) (trodAll_cons_mk (shut_int Yba.underlying5 w1) (trodAll_cons_mk (shut_int Yba.underlying5 w2) trodAll_mk0))), rfl, bel.frame _, fun h => by cases h⟩
  have hmax : len0 ≤ maxLen := by
    letI : Base := ⟨W.heap.size⟩
    exact (openSteps (W := W) rfl k0).1
  by_cases hl : len0 ≤ 512
  · exact (short len0 cap0 a0 n1 n2 W k0 hl w1 w2).mono fin
  · exact (long len0 cap0 a0 n1 n2 W (by omega) hmax).mono fin

theorem over : Rows.lawS3782BDropRow.holds Yba.pinned (OpenSpec.ofChange Rows.lawS3782BDropSpec) :=
  OpenClaim.holds_of_wide 3 Yba.f3 rfl rfl rfl rfl rfl rfl rfl ⟨rfl, rfl, rfl, rfl, rfl⟩ rfl rfl rfl rfl rfl (by kernel_rfl) Yba.func3 (by kernel_rfl)
    (of_decide_eq_true (by kernel_rfl)) (by unfold Func.isWrapper; first | (rw [if_pos (by decide +kernel)]; kernel_rfl) | (rw [if_neg (by decide +kernel)]; exact ⟨rfl, rfl⟩))
    (fun os started H enc _ => lifted os started H enc)

/-- THE STATEMENT. -/
theorem proved : Rows.LawS3782BDropSaid := over
#print axioms proved
end Go.Proofs.Ybulkbzhm.lawS3782BDrop
