/-
  A range over a function whose iterator hands out a known row: round k gets 'en k'; the caller's word I k between the rounds.
-/
import Derived.Test.YbulkbzhmCh
import Derived.RangeFuncNested
import Derived.RangeFuncBound
import Derived.RangeFuncCalls
import Derived.RangeFuncLeaves
import Derived.TacticsInMore
import Derived.LoopNIn
import Derived.LoopIn
import Derived.OwnWalkIn
namespace Go.Proofs.Ybulkbzhm
set_option linter.unusedSectionVars false
variable [Base]
open Go.RowKit

theorem range_det {P : Program} {g : Operand} {ps : Array Tmp} {assign body : Code} {Q : Exit → Act → World → Prop} {a : Act} {w : World} {gf : Nat} {lb : Array Value}
    (hg : a.eval g = .func (.func gf) #[] lb) (eg : ∀ args w, (callFunc gf args).run P w = .ok (.enter gf args) w)
    (m : Nat) (en : Nat → Array Value) (hps : ∀ k, (en k).size = ps.size) (I : Nat → World → Prop)
    (hIa : ∀ (W : World) (o : Obj), I 0 W → I 0 (W.alloc o)) (hIp : ∀ (k : Nat) (W : World) (l : Nat) (o o' : Obj), w.heap.size ≤ l → W.heap[l]? = some o → kindOf o = 998 → I k W → I k (W.putObj l o'))
    (hit : ∀ (l : Nat) (J : Nat → World → Prop) (W : World), (∀ k W, J k W → I k W) → (∀ k W, J k W → k < m → YieldAt Fence.wide 0 P l (en k) W fun e W' => e = .returned (.bool true) ∧ J (k + 1) W') → J 0 W → CallsIn Fence.wide 1 P gf (#[.func (.yield l) #[] #[]] ++ lb) W fun e W' => (∃ v, e = .returned v) ∧ J m W')
    (hround : ∀ (l k : Nat) (W : World), k < m → assign.wpIn (Fence.wide.inRound l) 0 P (Exit.then (fun a₁ W₁ => W₁ = W ∧ ∀ W2 : World, I k W2 → body.wpIn (Fence.wide.inRound l) 0 P (fun e _ W' => e = .normal ∧ (∀ (j : Nat) (o : Obj), W2.heap[j]? = some o → kindOf o = 998 → W'.heap[j]? = some o) ∧ I (k + 1) W') a₁ W2) (fun _ _ _ => False))
      { tmps := (ps.zip (en k)).foldl (fun t (p, v) => t.setIfInBounds p v) a.tmps, defers := [] } W)
    (h0 : I 0 w)
    (hdone : ∀ (D : Nat) (W : World), w.heap.size ≤ D → I m W → W.heap[D]? = some (.deferred (some [])) → Q .normal { a with defers := { target := .collected D, args := #[] } :: a.defers } W) :
    (Code.rangeFunc g ps assign body).wp P Q a w := by
  refine (wpIn_wide (n := 2)).1 (wpIn_rangeFunc ?_)
  intro fn hfn
  obtain ⟨r, hr⟩ : ∃ r : LoopState → Loop, r = fun st => { state := st, pending := none, fn, tmps := a.tmps, params := ps, assign, body, defers := w.heap.size } := ⟨_, rfl⟩
  have e1 : (r .ready).params = ps := by rw [hr]
  have hs1 : ((w.alloc (.deferred (some []))).alloc (.loop (r .ready))).heap[w.heap.size + 1]? = some (.loop (r .ready)) := by
    have := heap_alloc_new (w.alloc (.deferred (some []))) (.loop (r .ready))
    rwa [World.size_alloc] at this
  have hs2 : ((w.alloc (.deferred (some []))).alloc (.loop (r .ready))).heap[w.heap.size]? = some (.deferred (some [])) := (Below.heap_alloc _ _ _ (by simp)).trans (heap_alloc_new w _)
  have hen : (Instr.enterLoop fn a.tmps ps assign body Fence.wide.round).run P w = .ok (w.heap.size + 1, [{ target := .collected w.heap.size, args := #[] }]) ((w.alloc (.deferred (some []))).alloc (.loop (r .ready))) := by
    rw [hr]
    exact run_enterLoop_outer _ _ _ _ _
  have hI1 : I 0 ((w.alloc (.deferred (some []))).alloc (.loop (r .ready))) := hIa _ _ (hIa _ _ h0)
  generalize (w.alloc (.deferred (some []))).alloc (.loop (r .ready)) = W1 at *
  refine ⟨w.heap.size + 1, [{ target := .collected w.heap.size, args := #[] }], W1, { target := .fn (.func gf) lb, args := #[.func (.yield (w.heap.size + 1)) #[] #[]] }, W1, gf, #[.func (.yield (w.heap.size + 1)) #[] #[]] ++ lb, W1, hen, ?_, fun _ _ => trivial, ?_, fun _ => by omega, ?_⟩
  · simp only [resolve, hg]
    simp [go_sem]
  · simp [invoke, go_sem, eg]
  · refine (hit (w.heap.size + 1) (fun k W => I k W ∧ W.heap[w.heap.size + 1]? = some (.loop (r .ready)) ∧ W.heap[w.heap.size]? = some (.deferred (some []))) W1 (fun _ _ h => h.1) (fun k W hJ hk => ?_) ⟨hI1, hs1, hs2⟩).mono ?_
    · obtain ⟨hi, hl, hd⟩ := hJ
      have hlt : w.heap.size + 1 < W.heap.size := (Array.getElem?_eq_some_iff.1 hl).1
      have hy := run_yield (P := P) (args := en k) hl (by rw [e1]; exact hps k)
      rw [hr] at hy
      refine ⟨fn, _, assign, body, hy, roundIn_of_wpIn hfn (wpIn_mono (hround _ k W hk) ?_)⟩
      rintro e a1 W0 hp
      cases e with
      | normal =>
        obtain ⟨rfl, hbody⟩ := hp
        refine ⟨_, run_beginRound hl (by rw [hr]), ?_⟩
        have hl2 : (W0.putObj (w.heap.size + 1) (.loop { r .ready with state := .busy })).heap[w.heap.size + 1]? = some (.loop { r .ready with state := .busy }) := World.putObj_heap_same hlt
        have hd2 : (W0.putObj (w.heap.size + 1) (.loop { r .ready with state := .busy })).heap[w.heap.size]? = some (.deferred (some [])) := (World.putObj_heap_other (by omega)).trans hd
        refine wpIn_mono (hbody _ (hIp k W0 _ _ _ (Nat.le_succ _) hl rfl hi)) ?_
        rintro e a3 W3 ⟨rfl, hkeep, hi3⟩
        have hl3 := hkeep _ _ hl2 rfl
        have hd3 := hkeep _ _ hd2 rfl
        have hend := run_endRound (P := P) none hl3
        have hlt3 : w.heap.size + 1 < W3.heap.size := (Array.getElem?_eq_some_iff.1 hl3).1
        refine ⟨_, _, hend, rfl, hIp (k + 1) W3 _ _ _ (Nat.le_succ _) hl3 rfl hi3, ?_, (World.putObj_heap_other (by omega)).trans hd3⟩
        rw [World.putObj_heap_same hlt3, hr]
        simp
      | _ => exact hp.elim
    · rintro e W2 ⟨⟨v, rfl⟩, hi, hl, hd⟩
      refine ⟨none, _, ?_, hdone w.heap.size _ (Nat.le_refl _) (hIp m W2 _ _ (.loop { r .ready with state := .exhausted }) (Nat.le_succ _) hl rfl hi) ((World.putObj_heap_other (by omega)).trans hd)⟩
      have := run_endLoop (P := P) hl (by rw [hr]; simp)
      rw [hr] at this ⊢
      exact this

#print axioms range_det
end Go.Proofs.Ybulkbzhm
