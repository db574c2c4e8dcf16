/-
  update(n, sk): it writes numbers into the tree of kind sk.
-/
import Derived.Test.YbulkbzhmNode
namespace Go.Proofs.Ybulkbzhm
set_option linter.unusedSectionVars false
variable [Base]
open Go.RowKit
open Go.WideShapes (add_plain)

/-- A row of numbers. -/
def U64s (w : World) (g sz : Nat) : Prop := ∃ x : Nat → Int, Blk w g 70 sz (fun j => .int .u64 (x j))

theorem U64s.set {w : World} {g sz : Nat} (h : U64s w g sz) (i : Nat) (a : Int) : U64s (w.setCell ⟨g, i, none⟩ (.int .u64 a)) g sz := by
  obtain ⟨x, hx⟩ := h
  exact ⟨fun j => if j = i then a else x j, (hx.set i _).congr fun j _ => by by_cases e : j = i <;> simp [e]⟩

/-- One block alone has turned. -/
structure One (g : Nat) (w w' : World) : Prop where
  os : w'.os = w.os
  tape : w'.tape = w.tape
  output : w'.output = w.output
  size : w'.heap.size = w.heap.size
  block : ∀ k : Nat, k ≠ g → w'.heap[k]? = w.heap[k]?

theorem One.refl (g : Nat) (w : World) : One g w w := ⟨rfl, rfl, rfl, rfl, fun _ _ => rfl⟩
theorem One.drewN {g : Nat} {w w' : World} (h : One g w w') (m : Nat) : One g w (w'.drewN m) := ⟨h.os, h.tape, h.output, h.size, h.block⟩
theorem One.setCell {g : Nat} {w w' : World} (h : One g w w') (i : Nat) (v : Value) : One g w (w'.setCell ⟨g, i, none⟩ v) :=
  ⟨h.os, h.tape, h.output, by simpa using h.size, fun k hk => (heap_setCell_other _ _ _ _ hk).trans (h.block k hk)⟩
theorem One.blk {g : Nat} {w w' : World} (h : One g w w') {k : Nat} {e : TypeId} {sz : Nat} {c : Nat → Value} (hb : Blk w k e sz c) (hk : k ≠ g) : Blk w' k e sz c := hb.of_block (h.block k hk)

/-- The sections of a thread (its cells begin at place o of block P) and its tree of kind sk, as node wants them. -/
structure TreeC (w : World) (P o g n c sz lv sk lg lc lsz : Nat) (pc xc : Nat → Value) : Prop where
  blk : Blk w P 104 512 pc
  ho : o + 8 ≤ 512
  c0 : pc o = .slice (some ⟨g, 0, none⟩) n c
  c2 : pc (o + 2) = .int .i64 (lv : Int)
  c3 : pc (o + 3 + sk) = .slice (some ⟨lg, 0, none⟩) lv lc
  arr : Blk w g 87 sz xc
  hn : n ≤ c
  hn2 : n ≤ 1000000
  hc : c ≤ 9223372036854775807
  hsz : c * 6 ≤ sz
  cells : ∀ j, j < n → (∃ kd : Int, xc (j * 6 + 5) = .int .u8 kd) ∧ ∃ s : Int, xc (j * 6) = .int .u64 s
  nums : U64s w lg lsz
  hl : lv ≤ lsz
  hlv : lv ≤ 100000
  hsk : sk ≤ 1

section
variable {w w' : World} {P o g n c sz lv sk lg lc lsz : Nat} {pc xc : Nat → Value}

theorem TreeC.one (h : TreeC w P o g n c sz lv sk lg lc lsz pc xc) (h1 : One lg w w') (hu : U64s w' lg lsz) : TreeC w' P o g n c sz lv sk lg lc lsz pc xc := by
  obtain ⟨x, hx⟩ := h.nums
  exact ⟨h1.blk h.blk (h.blk.ne hx (by decide)), h.ho, h.c0, h.c2, h.c3, h1.blk h.arr (h.arr.ne hx (by decide)), h.hn, h.hn2, h.hc, h.hsz, h.cells, hu, h.hl, h.hlv, h.hsk⟩

theorem node_any (h : TreeC w P o g n c sz lv sk lg lc lsz pc xc) (k : Nat) (hk : k ≤ 1000000) :
    Calls Yba.prog 41 #[.pointer (some ⟨P, o, none⟩), .int .i64 (k : Int), .int .u8 (sk : Int)] w fun e w' => (∃ a : Int, e = .returned (.int .u64 a)) ∧ ∃ m, w' = w.drewN m := by
  have ho := h.ho
  have hsk := h.hsk
  have q2 : w.cell? ⟨P, o + 2, none⟩ = some (.int .i64 (lv : Int)) := (h.blk.cell (by omega)).trans (by rw [h.c2])
  obtain ⟨x, hx⟩ := h.nums
  by_cases hlt : k < lv
  · have hl := h.hl
    refine (node_low P o lg lv lc k sk (x k) w hlt h.hsk q2 ((h.blk.cell (by omega)).trans (by rw [h.c3])) (hx.cell (by omega))).mono ?_
    rintro e w' ⟨rfl, rfl⟩
    exact ⟨⟨_, rfl⟩, 0, rfl⟩
  · have hsz := h.hsz
    have hn := h.hn
    refine node_high P o g n c lv k sk w (by omega) hk h.hn h.hn2 q2 ((h.blk.cell (by omega)).trans (by rw [h.c0])) fun j hj => ?_
    obtain ⟨⟨kd, e5⟩, s, e0⟩ := h.cells j hj
    exact ⟨⟨kd, (h.arr.cell (by omega)).trans (by rw [e5])⟩, s, (h.arr.cell (by omega)).trans (by rw [e0])⟩

end

set_option maxRecDepth 100000 in
set_option maxHeartbeats 1000000 in
theorem update_any (w : World) (P o g n c sz lv sk lg lc lsz i : Nat) (pc xc : Nat → Value) (h : TreeC w P o g n c sz lv sk lg lc lsz pc xc) (hi : i < lv * 8) :
    Calls Yba.prog 38 #[.pointer (some ⟨P, o, none⟩), .int .i64 (i : Int), .int .u8 (sk : Int)] w fun e w' => e = .returned (.tuple #[]) ∧ U64s w' lg lsz ∧ One lg w w' := by
  have ho := h.ho
  have hsk := h.hsk
  have hlv := h.hlv
  have hsI : (sk : Int) < 2 := by omega
  have q2 : w.cell? ⟨P, o + 2, none⟩ = some (.int .i64 (lv : Int)) := (h.blk.cell (by omega)).trans (by rw [h.c2])
  have q3 : w.cell? ⟨P, o + 3 + sk, none⟩ = some (.slice (some ⟨lg, 0, none⟩) lv lc) := (h.blk.cell (by omega)).trans (by rw [h.c3])
  go_enter Yba.func38, Yba.ntmps38
  go_wp2
  go_loopw [7] (fun v wr => ∃ k : Nat, v = .int .i64 k ∧ k < lv ∧ U64s wr lg lsz ∧ One lg w wr) (fun v _ => (intOf v).toNat)
  case atStart => exact ⟨(lv + i / 8) / 2, by simp, by omega, h.nums, One.refl _ _⟩
  case round =>
    obtain ⟨k, rfl, hk, hu, h1⟩ := hrel
    by_cases hk0 : 1 ≤ k
    · have ht : ∀ m, TreeC (wr.drewN m) P o g n c sz lv sk lg lc lsz pc xc := fun m => h.one (h1.drewN m) (by obtain ⟨x, hx⟩ := hu; exact ⟨x, hx.of_block rfl⟩)
      have n1 : Calls Yba.prog 41 #[.pointer (some ⟨P, o, none⟩), .int .i64 (2 * (k : Int)), .int .u8 (sk : Int)] wr fun e w' => (∃ a : Int, e = .returned (.int .u64 a)) ∧ ∃ m, w' = wr.drewN m := by
        have := node_any (h.one h1 hu) (2 * k) (by omega)
        simpa using this
      have n2 : ∀ m, Calls Yba.prog 41 #[.pointer (some ⟨P, o, none⟩), .int .i64 (2 * (k : Int) + 1), .int .u8 (sk : Int)] (wr.drewN m) fun e w' => (∃ a : Int, e = .returned (.int .u64 a)) ∧ ∃ m', w' = (wr.drewN m).drewN m' := fun m => by
        have := node_any (ht m) (2 * k + 1) (by omega)
        simpa using this
      obtain ⟨x, hx⟩ := hu
      have hl := h.hl
      have qk : wr.cell? ⟨lg, k, none⟩ = some (.int .u64 (x k)) := hx.cell (by omega)
      have zk := hx.frozen
      have hkI : (k : Int) < (lv : Int) := by omega
      have hk1 : 1 ≤ (k : Int) := by omega
      go_wp2_with fail
      refine n1.mono ?_
      rintro e w1 ⟨⟨a1, rfl⟩, m1, rfl⟩
      go_wp2_with fail
      refine (n2 m1).mono ?_
      rintro e w2 ⟨⟨a2, rfl⟩, m2, rfl⟩
      go_wp2
      refine ⟨⟨k / 2, by simp, by omega, U64s.set ⟨x, hx.of_block rfl⟩ k _, (h1.drewN _).setCell k _⟩, by simp [intOf]; omega⟩
    · have hk00 : k = 0 := by omega
      subst hk00
      go_wp2
      go_end0
      exact ⟨rfl, hu, h1⟩

#print axioms update_any
end Go.Proofs.Ybulkbzhm
