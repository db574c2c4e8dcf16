/-
  (store).write: the contract on the store as a whole.
-/
import Derived.Test.YbulkbzccSWrite
import Derived.Test.YbulkbzccCollect
namespace Go.Proofs.Ybulkbzcc
open Go.RowKit
open Go.WideShapes (add_plain)

theorem Appended.nX {X : Nat → Prop} {w w' : World} {e : TypeId} {s : Nat} {v v' : Value} {n : Nat} {nw : Nat → Value} (h : Appended w w' e s v v' n nw) (hX : ∀ g, X g → g < w.heap.size) (hv : ∀ g, v.ownBlock = some g → ¬ X g) : ∀ g, v'.ownBlock = some g → ¬ X g := by
  intro g hg hxg
  rcases h with ⟨g', o, cap, rfl, _, rfl, _⟩ | ⟨cap, c', rfl, _⟩
  · exact hv g hg hxg
  · simp [Value.ownBlock] at hg
    have := hX g hxg
    omega

/-- The kept versions behind the append of one more of item i. -/
theorem kept_more {X : Nat → Prop} {w w0 w1 w' : World} {K n i : Nat} {lat : Nat → Int} {cnt : Nat → Nat} {ck : Nat → Value} {Bk ok cp : Nat → Nat} {v1 : Value} {ver vv num : Int}
    (hX : ∀ g, X g → g < w.heap.size) (hKX : ¬ X K) (hit : ∀ i, i ≤ n → ItemOK w X (ck i) (Bk i) (ok i) (cp i) (cnt i) (lat i)) (hd : ∀ i j, i ≤ n → j ≤ n → i ≠ j → Bk i ≠ Bk j ∨ ok i + cp i * 3 ≤ ok j ∨ ok j + cp j * 3 ≤ ok i)
    (hi : i ≤ n) (h0 : ∀ g, g < w.heap.size → w0.heap[g]? = w.heap[g]?) (hs0 : w.heap.size ≤ w0.heap.size)
    (ha : Appended w0 w1 79 3 (.slice (some ⟨Bk i, ok i, none⟩) (cnt i + 1) (cp i)) v1 (cnt i + 1) (three (.int .i64 vv) (.int .i64 ver) (.int .i64 num)))
    (hk : ∀ g sz cb, Blk w1 g 79 sz cb → Blk w' g 79 sz cb) (hbK : Blk w' K 94 (n + 1) (fun j => if j = i then v1 else ck j)) :
    KeptOK w' X K n (fun j => if j = i then ver else lat j) (fun j => if j = i then cnt i + 1 else cnt j) := by
  obtain ⟨hv, h2, h3, h4, sz, cb, h5, h6, a, b, e1, e2, e3⟩ := hit i hi
  have h50 : Blk w0 (Bk i) 79 sz cb := h5.of_block (h0 _ h5.lt)
  rcases ha with ⟨g, o, cap, hveq, hroom, rfl, hg, hsz, hbk⟩ | ⟨cap, c', rfl, hc1, hc2, hg, hsz, hbn, hnew, _⟩
  · simp at hveq
    obtain ⟨⟨rfl, rfl⟩, rfl⟩ := hveq
    have hroom3 : (cnt i + 1 + 1) * 3 ≤ cp i * 3 := Nat.mul_le_mul_right _ hroom
    have b1 := hbk sz cb h50 (by omega)
    refine KeptOK.update hKX hit hd i _ (Bk i) (ok i) (cp i) (cnt i + 1) ver hbK ⟨rfl, hroom, h3, h4, sz, _, hk _ _ _ b1, h6, vv, num, ?_, ?_, ?_⟩ (fun j hj hne sz2 cb2 hb2 => ?_) (fun j hj hne => hd i j hi hj fun h => hne h.symm)
    · have : ok i + (cnt i + 1) * 3 ≤ ok i + (cnt i + 1) * 3 ∧ ok i + (cnt i + 1) * 3 < ok i + (cnt i + 1 + 1) * 3 := by omega
      simp only [this, and_self, if_true, Nat.sub_self]
      rfl
    · have : ok i + (cnt i + 1) * 3 ≤ ok i + (cnt i + 1) * 3 + 1 ∧ ok i + (cnt i + 1) * 3 + 1 < ok i + (cnt i + 1 + 1) * 3 := by omega
      simp only [this, and_self, if_true, Nat.add_sub_cancel_left]
      rfl
    · have : ok i + (cnt i + 1) * 3 ≤ ok i + (cnt i + 1) * 3 + 2 ∧ ok i + (cnt i + 1) * 3 + 2 < ok i + (cnt i + 1 + 1) * 3 := by omega
      simp only [this, and_self, if_true, Nat.add_sub_cancel_left]
      rfl
    · by_cases eB : Bk j = Bk i
      · rw [eB] at hb2
        obtain ⟨_, rfl, hcc⟩ := hb2.size_eq h5
        obtain ⟨_, _, _, _, sz3, cb3, r5, r6, _⟩ := hit j hj
        rw [eB] at r5
        obtain ⟨_, rfl, _⟩ := hb2.size_eq r5
        refine ⟨_, by rw [eB]; exact hk _ _ _ b1, fun k k1 k2 => ?_⟩
        have hdj := hd i j hi hj fun h => hne h.symm
        have : ¬ (ok i + (cnt i + 1) * 3 ≤ k ∧ k < ok i + (cnt i + 1 + 1) * 3) := by
          rcases hdj with h | h | h
          · exact absurd eB.symm h
          · omega
          · omega
        simp only [this, if_false]
        exact (hcc k (by omega)).symm
      · refine ⟨cb2, hk _ _ _ ((hb2.of_block (h0 _ hb2.lt)).of_block (hg.block _ (by have := hb2.lt; omega) (by simpa using eB))), fun _ _ _ => rfl⟩
  · have hlt : ∀ j, j ≤ n → Bk j < w.heap.size := fun j hj => by
      obtain ⟨_, _, _, _, _, _, r5, _⟩ := hit j hj
      exact r5.lt
    refine KeptOK.update hKX hit hd i _ w0.heap.size 0 cap (cnt i + 1) ver hbK ⟨rfl, hc1, hc2, fun hx => by have := hX _ hx; omega, cap * 3, c', hk _ _ _ hbn, by omega, vv, num, ?_, ?_, ?_⟩ (fun j hj hne sz2 cb2 hb2 => ⟨cb2, hk _ _ _ ((hb2.of_block (h0 _ hb2.lt)).of_block (hg.block _ (by have := hb2.lt; omega) (by simp))), fun _ _ _ => rfl⟩) (fun j hj hne => .inl (by have := hlt j hj; omega))
    · have := hnew 0 (by omega)
      rw [Nat.zero_add]; exact this
    · have := hnew 1 (by omega)
      rw [Nat.zero_add]; exact this
    · have := hnew 2 (by omega)
      rw [Nat.zero_add]; exact this

/-- 'write' of the store. -/
theorem swrite_any (X : Nat → Prop) (L K n : Nat) (c : Nat → Value) (lat : Nat → Int) (cnt : Nat → Nat) (nq : Nat) (qi : Nat → Nat) (i : Nat) (num ver vv : Int) (w : World) (h : StoreC w X L K n c lat cnt nq qi) (hX : ∀ g, X g → g < w.heap.size)
    (hi : i ≤ n) (hct : cnt i ≤ 100000) (hnq : nq ≤ 100000) (hnum : num < 9223372036854775807) :
    Calls Yba.prog 27 #[.pointer (some ⟨L, 3, none⟩), .int .i64 num, .int .i64 (i : Int), .int .i64 ver, .int .i64 vv] w fun e w' => e = .returned (.tuple #[]) ∧ ∃ c',
      StoreC w' X L K n c' (fun j => if j = i then ver else lat j) (fun j => if j = i then cnt i + 1 else cnt j) (nq + 1) (fun j => if j = nq then i else qi j) ∧ (∀ j, j ≠ 4 → c' j = c j) ∧ Chg X Es w w' := by
  obtain ⟨hb, nX, c3, hkept, c5, c6, c7, ⟨x, hq, hqi⟩, qX⟩ := h
  obtain ⟨hKX, ck, Bk, ok, cp, hbK, hit, hd⟩ := hkept
  obtain ⟨hv, h2, h3, h4, sz, cb, h5, h6, a, b, e1, e2, e3⟩ := hit i hi
  have hB : SliceIs w 79 3 (.slice (some ⟨Bk i, ok i, none⟩) (cnt i + 1) (cp i)) (cnt i + 1) (fun j => cb (ok i + j)) := .inr ⟨Bk i, ok i, cp i, sz, cb, rfl, h2, h3, h5, h6, fun _ _ => rfl⟩
  refine (swrite_walk L K n (Bk i) (ok i) (cp i) (cnt i) i nq num ver vv c ck _ x w hb c3 hbK hi hv hB hct hq hnq).mono ?_
  rintro e w' ⟨rfl, v1, w1, v2, w2, ha, hap, rfl⟩
  have hg := ha.grown
  have lL := hb.lt
  have lK := hbK.lt
  have hL1 : Blk w1 L 75 15 c := (hb.alloc _).of_block (hg.block L (by simp; omega) (by simpa [Value.ownBlock] using hb.ne h5 (by decide)))
  have hK1 : Blk w1 K 94 (n + 1) ck := (hbK.alloc _).of_block (hg.block K (by simp; omega) (by simpa [Value.ownBlock] using hbK.ne h5 (by decide)))
  have hq1 : SliceIs w1 105 2 (c 4) nq x := (hq.alloc _).of_block fun g hg4 => by
    obtain ⟨sz', cc, hbb⟩ := hq.typed hg4
    exact hg.block g (by have := hbb.lt; simp; omega) (by simpa [Value.ownBlock] using hbb.ne h5 (by decide))
  have hX1 : ∀ g, X g → g < w1.heap.size := fun g hx => by have := hX g hx; have := hg.size; simp at this; omega
  have q0 : Chg X Es w (w.alloc (.cells #[.int .i64 vv, .int .i64 ver, .int .i64 num] 79)).drew := ((Chg.refl X Es w).alloc hX _).drew
  have q1 : Chg X Es w w1 := q0.app (fun g hx => by have := hX g hx; simp; omega) (hB.alloc _) (fun g hgg => by simp [Value.ownBlock] at hgg; subst hgg; exact h4) (.inr (.inr (.inl rfl))) ha
  -- behind w1
  have r1 := (Chg.refl X (fun e => e = 75 ∨ e = 94 ∨ e = 105) w1).setCell hK1 hKX (.inr (.inl rfl)) i v1
  have hK2 := hK1.set i v1
  have hL2 := hL1.set_other (a := ⟨K, i, none⟩) (hL1.ne hK1 (by decide)) v1
  have hq2 : SliceIs (w1.setCell ⟨K, i, none⟩ v1) 105 2 (c 4) nq x := hq1.of_block fun g hg4 => heap_setCell_other _ _ _ _ (by
    obtain ⟨sz', cc, hbb⟩ := hq1.typed hg4
    exact hbb.ne hK1 (by decide))
  have r2 := r1.alloc (fun g hx => by have := hX1 g hx; simpa using this) (.cells #[.int .i64 num, .int .i64 (i : Int)] 105)
  have hX2 : ∀ g, X g → g < ((w1.setCell ⟨K, i, none⟩ v1).alloc (.cells #[.int .i64 num, .int .i64 (i : Int)] 105)).heap.size := fun g hx => by have := hX1 g hx; simp; omega
  have r3 := r2.app hX2 (hq2.alloc _) qX (.inr (.inr rfl)) hap
  have k3 : ∀ g e sz c, Blk w1 g e sz c → e ≠ 94 → e ≠ 105 → Blk w2 g e sz c := fun g e sz' c' hbb n1 n2 => by
    have s1 := (hbb.set_other (a := ⟨K, i, none⟩) (hbb.ne hK1 n1) v1).alloc (.cells #[.int .i64 num, .int .i64 (i : Int)] 105)
    refine s1.of_block (hap.grown.block g s1.lt fun hc => ?_)
    obtain ⟨sz2, cc, hb2⟩ := (hq2.alloc (.cells #[.int .i64 num, .int .i64 (i : Int)] 105)).typed hc.symm
    exact absurd rfl (s1.ne hb2 n2)
  have hL3 : Blk w2 L 75 15 c := k3 L 75 15 c hL1 (by decide) (by decide)
  have hK3 : Blk w2 K 94 (n + 1) (fun j => if j = i then v1 else ck j) := by
    have s1 := hK2.alloc (.cells #[.int .i64 num, .int .i64 (i : Int)] 105)
    refine s1.of_block (hap.grown.block K s1.lt fun hc => ?_)
    obtain ⟨sz2, cc, hb2⟩ := (hq2.alloc (.cells #[.int .i64 num, .int .i64 (i : Int)] 105)).typed hc.symm
    exact absurd rfl (s1.ne hb2 (by decide))
  have r4 := r3.setCell hL3 nX (.inl rfl) 4 v2
  have hK4 : Blk (w2.setCell ⟨L, 4, none⟩ v2) K 94 (n + 1) (fun j => if j = i then v1 else ck j) := hK3.set_other (a := ⟨L, 4, none⟩) (hK3.ne hL3 (by decide)) v2
  have hq4 := (hq2.alloc (.cells #[.int .i64 num, .int .i64 (i : Int)] 105)).ap hap
  have hq5 := hq4.of_block (w' := w2.setCell ⟨L, 4, none⟩ v2) fun g hg4 => heap_setCell_other _ _ _ _ (by
    obtain ⟨sz', cc, hbb⟩ := hq4.typed hg4
    exact hbb.ne hL3 (by decide))
  refine ⟨rfl, fun j => if j = 4 then v2 else c j, ⟨hL3.set 4 v2, nX, c3, ?_, c5, c6, c7, ⟨_, by simpa using hq5, fun j hj => ?_⟩, by simpa using hap.nX hX2 qX⟩, fun j hj => by simp [hj], q1.trans (r4.mono fun e he => ?_)⟩
  · refine kept_more (w0 := (w.alloc (.cells #[.int .i64 vv, .int .i64 ver, .int .i64 num] 79)).drew) hX hKX hit hd hi (fun g hlt => Below.heap_alloc w _ g hlt) (by simp) ha (fun g sz' cb' hbb => ?_) hK4
    exact (k3 g 79 sz' cb' hbb (by decide) (by decide)).set_other (a := ⟨L, 4, none⟩) ((k3 g 79 sz' cb' hbb (by decide) (by decide)).ne hL3 (by decide)) v2
  · by_cases e : j = nq
    · subst e
      have z1 : ¬ j * 2 < j * 2 := by omega
      have z2 : ¬ j * 2 + 1 < j * 2 := by omega
      refine ⟨by simpa using hi, ⟨num, hnum, ?_⟩, ?_⟩
      · simp only [z1, if_false, Nat.sub_self]; rfl
      · simp only [z2, if_false, Nat.add_sub_cancel_left, if_true]; rfl
    · obtain ⟨y1, ⟨nm, y2, y3⟩, y4⟩ := hqi j (by omega)
      have z1 : j * 2 < nq * 2 := by omega
      have z2 : j * 2 + 1 < nq * 2 := by omega
      refine ⟨by simpa [e] using y1, ⟨nm, y2, ?_⟩, ?_⟩
      · simp only [z1, if_true]; exact y3
      · simp only [z2, e, if_true, if_false]; exact y4
  · rcases he with rfl | rfl | rfl <;> simp [Es]

#print axioms swrite_any
end Go.Proofs.Ybulkbzcc
