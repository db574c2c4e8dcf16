/-
  hold, isContested, nested.
-/
import Derived.Test.YbulkbzhmRep
namespace Go.Proofs.Ybulkbzhm
set_option linter.unusedSectionVars false
variable [Base]
open Go.RowKit Go.Maps
open Go.WideShapes (add_plain)

section
variable {w : World} {hv : Nat → Value} {hn hc : Nat → Nat} {th pl : Nat × Nat → Nat} {sv pv : Nat × Nat → Value}

theorem HoldP.val (h : HoldP w hv hn hc th pl sv pv) (l : Nat) : (∃ a, hv l = .slice a (hn l) (hc l)) ∧ hn l ≤ hc l ∧ hc l ≤ maxLen := by
  obtain ⟨hx, f, _⟩ := h
  rcases f.row l with ⟨h0, h1, h2⟩ | ⟨g, h0, h1, h2, _⟩
  · simp only at h1 h2
    exact ⟨⟨none, by rw [h0, h1, h2]⟩, by omega, by rw [h2]; exact Nat.zero_le _⟩
  · exact ⟨⟨_, h0⟩, h1, h2⟩

/-- The cells of a hold, up to the capacity. -/
theorem HoldP.at (h : HoldP w hv hn hc th pl sv pv) {l k : Nat} (hk : k < hc l) : ∃ g c, hv l = .slice (some ⟨g, 0, none⟩) (hn l) (hc l) ∧ Blk w g 66 (hc l * 4) c ∧
    w.cell? ⟨g, k * 4, none⟩ = some (.int .i64 (th (l, k) : Int)) ∧ w.cell? ⟨g, k * 4 + 1, none⟩ = some (.int .i64 (pl (l, k) : Int)) ∧ w.cell? ⟨g, k * 4 + 2, none⟩ = some (sv (l, k)) ∧ w.cell? ⟨g, k * 4 + 3, none⟩ = some (pv (l, k)) ∧ ∀ i, w.frozen? ⟨g, i, none⟩ = false := by
  obtain ⟨hx, f, hc'⟩ := h
  rcases f.row l with ⟨_, _, h2⟩ | ⟨g, h0, h1, h2, h3⟩
  · simp only at h2
    omega
  · obtain ⟨c0, c1, c2, c3⟩ := hc' l k hk
    simp only at h3
    exact ⟨g, _, h0, h3, (h3.cell (by omega)).trans (by rw [c0]), (h3.cell (by omega)).trans (by rw [c1]), (h3.cell (by omega)).trans (by rw [c2]), (h3.cell (by omega)).trans (by rw [c3]), h3.frozen⟩

end

theorem maxLen_int : ((maxLen : Nat) : Int) ≤ 9223372036854775807 := by decide

/-- The lock's own cells. -/
theorem Rep.ld {w : World} {s : St} (h : Rep w s) {LS l : Nat} (hL : s.L = some LS) (hl : l ≤ 2) : ∃ lc, Blk w LS 93 256 lc ∧ w.cell? ⟨LS, l * 4, none⟩ = some (s.hv l) ∧ w.cell? ⟨LS, l * 4 + 1, none⟩ = some (.int .i64 (s.ct l : Int)) ∧ ∀ i, w.frozen? ⟨LS, i, none⟩ = false := by
  rcases h.lock with ⟨h0, _⟩ | ⟨LS', lc, h0, hb, h1⟩
  · rw [h0] at hL
    simp at hL
  · rw [h0] at hL
    simp at hL
    subst hL
    obtain ⟨a1, a2⟩ := h1 l hl
    exact ⟨lc, hb, (hb.cell (by omega)).trans (by rw [a1]), (hb.cell (by omega)).trans (by rw [a2]), hb.frozen⟩

def El (e : TypeId) : Prop := e = 56 ∨ e = 121 ∨ e = 93

set_option maxRecDepth 100000 in
theorem hold_rep {w : World} {s : St} (h : Rep w s) (t l : Nat) (hl : l ≤ 2) :
    Calls Yba.prog 6 #[.pointer (some ⟨s.D, 0, none⟩), .int .i64 (t : Int), .int .i64 (l : Int)] w fun e w' => ∃ LS, (∀ x, s.L = some x → x = LS) ∧ Rep w' { s with L := some LS } ∧ Ch El w w' ∧
      ((e = .returned (.pointer none) ∧ ∀ k, k < s.hn l → s.th (l, k) ≠ t) ∨ ∃ k g, k < s.hn l ∧ s.th (l, k) = t ∧ s.hv l = .slice (some ⟨g, 0, none⟩) (s.hn l) (s.hc l) ∧ e = .returned (.pointer (some ⟨g, k * 4, none⟩))) := by
  have cl := get19_rep h l hl
  obtain ⟨⟨a, hv⟩, hn, hm⟩ := h.holds.val l
  have hmI : (s.hn l : Int) ≤ 9223372036854775807 := by have := maxLen_int; omega
  go_enter Yba.func6, Yba.ntmps6
  go_wp2_with fail
  refine cl.mono ?_
  rintro e w1 ⟨LS, rfl, hLx, hR, hC⟩
  obtain ⟨lc, b0, b1, b2, b3⟩ := hR.ld (LS := LS) rfl hl
  simp only [hv] at b1
  go_wp2_with fail
  go_loopg [19] (s.hn l) (fun k v wr => ∃ i : Nat, k + i = s.hn l ∧ v = .int .i64 (i : Int) ∧ wr = w1 ∧ ∀ j, j < i → s.th (l, j) ≠ t)
  case atStart => exact ⟨0, by omega, rfl, rfl, fun j hj => by omega⟩
  case round =>
    obtain ⟨i, hk, rfl, rfl, hall⟩ := hrel
    have HALL : Hid (∀ j, j < i → s.th (l, j) ≠ t) := hall
    clear hall
    by_cases hi : i < s.hn l
    · obtain ⟨g, c, g0, g1, g2, g3, g4, g5, g6⟩ := hR.holds.at (l := l) (k := i) (by show i < s.hc l; omega)
      simp only at g0 g1 g2
      rw [hv] at g0
      simp at g0
      subst g0
      have hiI : (i : Int) < (s.hn l : Int) := by omega
      by_cases hth : s.th (l, i) = t
      · have hthI : ((s.th (l, i) : Int) == (t : Int)) = true := by simp [hth]
        go_wp2
        go_ret
        exact ⟨LS, hLx, hR, hC.mono fun e he => he, .inr ⟨i, hi, hth, rfl⟩⟩
      · have hthI : ((s.th (l, i) : Int) == (t : Int)) = false := by
          simp only [beq_eq_false_iff_ne]
          omega
        go_wp2
        go_roundg (gk - 1)
        case measure => omega
        case rel =>
          refine ⟨i + 1, by omega, by go_num, rfl, fun j hj => ?_⟩
          by_cases e : j = i
          · rw [e]; exact hth
          · exact HALL.out j (by omega)
    · have : i = s.hn l := by omega
      subst this
      go_wp2
      go_ret
      exact ⟨LS, hLx, hR, hC.mono fun e he => he, .inl ⟨rfl, HALL.out⟩⟩

set_option maxRecDepth 100000 in
theorem isContested_rep {w : World} {s : St} (h : Rep w s) (l : Nat) (hl : l ≤ 2) :
    Calls Yba.prog 7 #[.pointer (some ⟨s.D, 0, none⟩), .int .i64 (l : Int)] w fun e w' => ∃ LS, (∀ x, s.L = some x → x = LS) ∧ Rep w' { s with L := some LS } ∧ Ch El w w' ∧ e = .returned (.bool (!decide (s.ct l = 0))) := by
  have cl := get19_rep h l hl
  go_enter Yba.func7, Yba.ntmps7
  go_wp2_with fail
  refine cl.mono ?_
  rintro e w1 ⟨LS, rfl, hLx, hR, hC⟩
  obtain ⟨lc, b0, b1, b2, b3⟩ := hR.ld (LS := LS) rfl hl
  simp only at b2
  go_wp2
  go_ret
  refine ⟨LS, hLx, hR, hC.mono fun e he => he, ?_⟩
  by_cases hc : s.ct l = 0
  · simp [hc]
  · have : ((s.ct l : Int) == 0) = false := by
      simp only [beq_eq_false_iff_ne]
      omega
    simp [hc]

set_option maxRecDepth 100000 in
theorem nested_rep {w : World} {s : St} (h : Rep w s) (t : Nat) (ht : t ≤ 2) :
    Calls Yba.prog 9 #[.pointer (some ⟨s.D, 0, none⟩), .int .i64 (t : Int)] w fun e w' => ∃ TS, e = .returned (.pointer (some ⟨TS, t * 8, none⟩)) ∧ (∀ x, s.T = some x → x = TS) ∧ Rep w' { s with T := some TS } ∧ Ch (fun e => e = 56 ∨ e = 123 ∨ e = 104) w w' := by
  have cl := get20_rep h t ht
  go_enter Yba.func9, Yba.ntmps9
  go_wp2_with fail
  refine cl.mono ?_
  rintro e w1 ⟨TS, rfl, hLx, hR, hC⟩
  go_wp2
  go_ret
  exact ⟨TS, rfl, hLx, hR, hC⟩

#print axioms nested_rep
end Go.Proofs.Ybulkbzhm
