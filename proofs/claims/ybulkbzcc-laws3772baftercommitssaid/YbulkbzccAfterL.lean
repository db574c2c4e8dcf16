/-
  The log between the commits: it begins as NewLog leaves it; it stands where foreign blocks alone turn; it is read.
-/
import Derived.Test.YbulkbzccLogC
import Derived.Test.YbulkbzccFreshW
namespace Go.Proofs.Ybulkbzcc
open Go.RowKit
open Go.WideShapes (add_plain)

/-- The log between the commits. -/
def LogS (w : World) (X : Nat → Prop) (L K O G n T : Nat) (lat : Nat → Int) (ver num : Int) : Prop :=
  ∃ c qi, LogC w X L K O G n T c lat (fun _ => 0) 0 qi ∧ c 1 = .int .i64 ver ∧ c 2 = .int .i64 num ∧ CycOK c

section
variable {w w' : World} {X X' : Nat → Prop} {L K O G n T : Nat} {lat : Nat → Int} {ver num : Int}

theorem LogC.of_blocks {c : Nat → Value} {cnt : Nat → Nat} {nq : Nat} {qi : Nat → Nat} (h : LogC w X L K O G n T c lat cnt nq qi) (hb : ∀ g, g < w.heap.size → ¬ X g → w'.heap[g]? = w.heap[g]?) : LogC w' X L K O G n T c lat cnt nq qi := by
  have wf : ∀ {e s v m}, Wf w X e s v m → Wf w' X e s v m := fun ⟨⟨x, hx⟩, hv⟩ => ⟨⟨x, hx.of_block fun g hg => hb g (hx.lt hg) (hv g hg)⟩, hv⟩
  obtain ⟨⟨bL, nX, c3, ⟨hK, ck, Bk, ok, cp, hbK, hi, hd⟩, c5, c6, c7, ⟨x, hq, hqi⟩, qX⟩, c12, c13, ⟨m1, t1, w1⟩, ⟨m2, t2, w2⟩, ⟨m3, t3, w3⟩, nO, ⟨co, bo, ho⟩, nG, ⟨cg, bg⟩⟩ := h
  refine ⟨⟨bL.of_block (hb L bL.lt nX), nX, c3, ⟨hK, ck, Bk, ok, cp, hbK.of_block (hb K hbK.lt hK), fun i hn => ?_, hd⟩, c5, c6, c7, ⟨x, hq.of_block fun g hg => hb g (hq.lt hg) (qX g hg), hqi⟩, qX⟩, c12, c13, ⟨m1, t1, wf w1⟩, ⟨m2, t2, wf w2⟩, ⟨m3, t3, wf w3⟩, nO, ⟨co, bo.of_block (hb O bo.lt nO), fun i hi => ?_⟩, nG, ⟨cg, bg.of_block (hb G bg.lt nG)⟩⟩
  · obtain ⟨r1, r2, r3, r4, sz, cb, r5, r6⟩ := hi i hn
    exact ⟨r1, r2, r3, r4, sz, cb, r5.of_block (hb _ r5.lt r4), r6⟩
  · obtain ⟨m, hm, hw⟩ := ho i hi
    exact ⟨m, hm, wf hw⟩

theorem LogS.of_blocks (h : LogS w X L K O G n T lat ver num) (hb : ∀ g, g < w.heap.size → ¬ X g → w'.heap[g]? = w.heap[g]?) : LogS w' X L K O G n T lat ver num := by
  obtain ⟨c, qi, hL, r⟩ := h
  exact ⟨c, qi, hL.of_blocks hb, r⟩

theorem LogS.below (h : LogS w X L K O G n T lat ver num) (hb : Below w.heap.size w w') : LogS w' X L K O G n T lat ver num := h.of_blocks fun g hg _ => hb.block g hg

theorem LogS.congr (h : LogS w X L K O G n T lat ver num) (hX : ∀ g, g < w.heap.size → X' g → X g) : LogS w X' L K O G n T lat ver num := by
  obtain ⟨c, qi, hL, r⟩ := h
  exact ⟨c, qi, hL.congr hX, r⟩

theorem LogS.lat_congr {lat' : Nat → Int} (h : LogS w X L K O G n T lat ver num) (hl : ∀ i, i ≤ n → lat i = lat' i) : LogS w X L K O G n T lat' ver num := by
  obtain ⟨c, qi, ⟨⟨bL, nX, c3, hk, c5, c6, c7, hq, qX⟩, r1, r2, r3, r4, r5, r6, r7, r8, r9⟩, r⟩ := h
  exact ⟨c, qi, ⟨⟨bL, nX, c3, hk.congr hl fun _ _ => rfl, c5, c6, c7, hq, qX⟩, r1, r2, r3, r4, r5, r6, r7, r8, r9⟩, r⟩

theorem LogS.mono {T' : Nat} (h : LogS w X L K O G n T lat ver num) (hT : T ≤ T') : LogS w X L K O G n T' lat ver num := by
  obtain ⟨c, qi, hL, r⟩ := h
  exact ⟨c, qi, hL.mono hT, r⟩

theorem LogS.storeOK (h : LogS w X L K O G n T lat ver num) : StoreOK w L n lat := by
  obtain ⟨c, qi, ⟨⟨bL, nX, c3, ⟨hK, ck, Bk, ok, cp, hbK, hi, hd⟩, c5, c6, c7, hq, qX⟩, _⟩, _⟩ := h
  refine ⟨⟨_, _, bL⟩, K, _, _, hbK, (bL.cell (i := 3) (by omega)).trans (by rw [c3]), fun i hn => ?_⟩
  obtain ⟨r1, r2, r3, r4, sz, cb, r5, r6, a, b, e1, e2, e3⟩ := hi i hn
  have : (0 + 1) * 3 ≤ cp i * 3 := Nat.mul_le_mul_right _ r2
  simp only at r1 e1 e2 e3
  exact ⟨Bk i, ok i, 0, cp i, a, b, sz, cb, by decide, r5, (hbK.cell (i := i) (by omega)).trans (by rw [r1]), (r5.cell (by omega)).trans (by rw [e1]), (r5.cell (by omega)).trans (by rw [e2]), (r5.cell (by omega)).trans (by rw [e3])⟩

end

theorem FreshLog.logS {w : World} {B L n : Nat} (h : FreshLog w B L n) {X : Nat → Prop} (hX : ∀ g, g < w.heap.size → X g → g < B) : ∃ K O G, LogS w X L K O G n 0 (fun i => (i : Int)) n 1 := by
  obtain ⟨K, F, O, G, hBL, hBK, hBF, hBO, hBG, hL, hK, hF, hO, hG⟩ := h
  have bL := Blk.of_row hL
  have nx : ∀ g, g < w.heap.size → B ≤ g → ¬ X g := fun g hg hb hx => by have := hX g hg hx; omega
  have wnil : ∀ e s, Wf w X e s (.slice none 0 0) 0 := fun e s => ⟨⟨fun _ => undef, SliceIs.nil w e s _⟩, fun g hg => by simp [Value.ownBlock] at hg⟩
  refine ⟨K, O, G, _, fun _ => 0, ⟨⟨bL, nx L bL.lt hBL, rfl, ⟨nx K hK.lt hBK, _, fun _ => F, fun i => i * 3, fun _ => 1, hK, fun i hi => ?_, fun i j _ _ hij => .inr (by show i * 3 + 1 * 3 ≤ j * 3 ∨ j * 3 + 1 * 3 ≤ i * 3; omega)⟩, rfl, ⟨_, rfl⟩, ⟨_, rfl⟩, ⟨fun _ => undef, SliceIs.nil w 105 2 _, fun j hj => by omega⟩, fun g hg => by simp [Value.ownBlock] at hg⟩, rfl, rfl, ⟨0, Nat.le_refl _, wnil 29 1⟩, ⟨0, Nat.le_refl _, wnil 3 1⟩, ⟨0, Nat.le_refl _, wnil 3 1⟩, nx O hO.lt hBO, ⟨_, hO, fun i _ => ⟨0, Nat.le_refl _, wnil 100 4⟩⟩, nx G hG.lt hBG, ⟨fun _ => 0, hG⟩⟩, rfl, rfl, rfl, .inr ⟨rfl, rfl, rfl, rfl⟩⟩
  have hi1 : i < n + 1 := by omega
  refine ⟨by simp [keptCell]; omega, Nat.le_refl _, (by decide : 1 ≤ maxLen), nx F hF.lt hBF, _, _, hF, (by show i * 3 + 1 * 3 ≤ (n + 1) * 3; omega), 0, 1, ?_, ?_, ?_⟩
  · have a1 : (i * 3 + 0 * 3) / 3 = i := by omega
    have a2 : (i * 3 + 0 * 3) % 3 = 0 := by omega
    simp [firstCell]
  · have a1 : (i * 3 + 0 * 3 + 1) / 3 = i := by omega
    have a2 : (i * 3 + 0 * 3 + 1) % 3 = 1 := by omega
    simp only [firstCell, a1, a2, hi1, if_true]
  · have a1 : (i * 3 + 0 * 3 + 2) / 3 = i := by omega
    have a2 : (i * 3 + 0 * 3 + 2) % 3 = 2 := by omega
    simp [firstCell, a1, a2, hi1]

#print axioms FreshLog.logS
end Go.Proofs.Ybulkbzcc
