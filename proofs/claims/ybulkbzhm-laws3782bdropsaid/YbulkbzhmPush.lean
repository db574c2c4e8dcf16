/-
  push, add.
-/
import Derived.Test.YbulkbzhmThr
namespace Go.Proofs.Ybulkbzhm
set_option linter.unusedSectionVars false
variable [Base]
open Go.RowKit
open Go.WideShapes (add_plain)

theorem info87 : (Yba.prog.info? 87).map (fun i => (i.zero, i.size, i.bytes)) = some (some (.agg #[.int .u64 0, .int .u64 0, .int .u64 0, .pointer none, .int .u32 0, .int .u8 0]), 6, 40) := by kernel_rfl

/-- A section's cells. -/
def secC (s : Int) (kd : Nat) : Array Value := #[.int .u64 s, .int .u64 0, .int .u64 0, .pointer none, .int .u32 0, .int .u8 (kd : Int)]
def secN (s : Int) (kd : Nat) (j : Nat) : Value := if j = 0 then .int .u64 s else if j = 3 then .pointer none else if j = 4 then .int .u32 0 else if j = 5 then .int .u8 (kd : Int) else .int .u64 0

theorem sec_new (w : World) (s : Int) (kd : Nat) : ∀ j, j < 6 → (w.alloc (.cells (secC s kd) 87)).cell? ((⟨w.heap.size, 0, none⟩ : Addr).add j) = some (secN s kd j) := by
  intro j hj
  have : j = 0 ∨ j = 1 ∨ j = 2 ∨ j = 3 ∨ j = 4 ∨ j = 5 := by omega
  rcases this with rfl | rfl | rfl | rfl | rfl | rfl <;> simp [add_plain, secN, secC]

theorem Appended.other {w w' : World} {e e' : TypeId} {s n g sz : Nat} {v v' : Value} {x nw c : Nat → Value} (ha : Appended w w' e s v v' n nw) (hs : SliceIs w e s v n x) (hb : Blk w g e' sz c) (he : e' ≠ e) : Blk w' g e' sz c :=
  hb.of_block (ha.grown.block g hb.lt fun hc => by
    obtain ⟨sz', c', hb'⟩ := hs.typed hc.symm
    exact absurd rfl (hb.ne hb' he))

def Ep (e : TypeId) : Prop := e = 104 ∨ e = 87

theorem Ep.et {e : TypeId} (h : Ep e) : Et e := by
  rcases h with h | h
  · exact .inl h
  · exact .inr (.inr h)

attribute [-go_sem] Builtin.append_ in
set_option maxRecDepth 100000 in
set_option maxHeartbeats 1000000 in
theorem push_any {w : World} {T : Nat} {tc xv qv : Nat → Value} {xk : Nat → List Nat} {lv : Nat → Nat} (h : ThrQ w T tc xv xk qv lv) (t : Nat) (ht : t ≤ 2) (hK : (xk t).length ≤ 10000) (s : Int) (kd : Nat) :
    Calls Yba.prog 37 #[.pointer (some ⟨T, t * 8, none⟩), .agg #[.int .u64 s, .int .u64 0, .int .u64 0, .pointer none, .int .u32 0, .int .u8 (kd : Int)]] w fun e w' => e = .returned (.int .i32 ((xk t).length : Int)) ∧
      ∃ v' tc', v' ≠ .slice none 0 0 ∧ ThrQ w' T tc' (upd xv t v') (upd xk t (xk t ++ [kd])) qv lv ∧ Ch Et w w' := by
  have hb := h.blk
  obtain ⟨a, cap, hv⟩ := (h.rows.row t).val
  have h1 := h.one t ht
  obtain ⟨x, hs⟩ := (h.rows.row t).slice
  have q0 : w.cell? ⟨T, t * 8, none⟩ = some (.slice a (xk t).length cap) := (hb.cell (by omega)).trans (by rw [h1.c0, hv])
  have zT := hb.frozen
  have hKI : ((xk t).length : Int) ≤ 10000 := by omega
  have lT := hb.lt
  have hs2 : SliceIs (((w.alloc (.cells (secC s kd) 87)).alloc (.cells (secC s kd) 87)).drew) 87 6 (.slice a (xk t).length cap) (xk t).length x := by rw [← hv]; exact ((hs.alloc _).alloc _).drew
  obtain ⟨v1, w1, hr, ha⟩ := run_append1 (P := Yba.prog) ((w.alloc (.cells (secC s kd) 87)).alloc (.cells (secC s kd) 87)).drew (by have := hb.room; simp; omega) 96 96 87 Yba.underlying96 info87 rfl (.slice a (xk t).length cap) (xk t).length x hs2 ⟨w.heap.size + 1, 0, none⟩ 1 (secN s kd) (by have := sec_new (w.alloc (.cells (secC s kd) 87)) s kd; simpa using this) (fun j hj => by
    have : j = 0 ∨ j = 1 ∨ j = 2 ∨ j = 3 ∨ j = 4 ∨ j = 5 := by omega
    rcases this with rfl | rfl | rfl | rfl | rfl | rfl <;> rfl) (by omega) (by unfold maxLen; omega)
  unfold secC at hr
  obtain ⟨g1, o1, cp1, rfl⟩ := ha.val
  have hT1 : Blk w1 T 104 512 tc := ha.other hs2 ((hb.alloc _).alloc _).drew (by decide)
  have zT1 := hT1.frozen
  have qT1 := hT1.cell (i := t * 8) (by omega)
  go_enter Yba.func37, Yba.ntmps37
  go_wp2_with fail
  go_region
  go_wp2
  go_ret
  refine ⟨rfl, .slice (some ⟨g1, o1, none⟩) ((xk t).length + 1) cp1, (fun j => if j = t * 8 then .slice (some ⟨g1, o1, none⟩) ((xk t).length + 1) cp1 else tc j), by simp, ?_, ?_⟩
  · have rA : Fam KRow ((w.alloc (.cells (secC s kd) 87)).alloc (.cells (secC s kd) 87)).drew xv xk := (h.rows.below KRow.loc (((Below.refl _ _).alloc (Nat.le_refl _) _).alloc (by simp) _)).of_blocks KRow.loc fun _ _ _ _ => rfl
    have hr0 := rA.row t
    rw [hv] at hr0
    have r1 : Fam KRow w1 (upd xv t (.slice (some ⟨g1, o1, none⟩) ((xk t).length + 1) cp1)) (upd xk t (xk t ++ [kd])) := rA.turn KRow.loc t (hr0.append kd s rfl rfl rfl rfl rfl rfl ha) (fun g hg hn => ha.grown.block g hg fun hc => hn (by rw [hv]; exact hc.symm)) (fun g hg => by rw [hv]; exact ha.own g hg)
    have r2 : Fam KRow (w1.setCell ⟨T, t * 8, none⟩ (.slice (some ⟨g1, o1, none⟩) ((xk t).length + 1) cp1)) (upd xv t (.slice (some ⟨g1, o1, none⟩) ((xk t).length + 1) cp1)) (upd xk t (xk t ++ [kd])) := r1.of_blocks KRow.loc fun g _ _ hk => heap_setCell_other _ _ _ _ (hk.ne hT1 (by decide))
    have hN : Nums w (w1.setCell ⟨T, t * 8, none⟩ (.slice (some ⟨g1, o1, none⟩) ((xk t).length + 1) cp1)) := Nums.ch (E := Ep) ((((((Ch.refl _ w).alloc _).alloc _).drew).app hs2 (.inr rfl) ha).setCell hT1 (.inl rfl) _ _) (by unfold Ep; decide)
    have hth : Thr1 (w1.setCell ⟨T, t * 8, none⟩ (.slice (some ⟨g1, o1, none⟩) ((xk t).length + 1) cp1)) (fun j => if j = t * 8 then .slice (some ⟨g1, o1, none⟩) ((xk t).length + 1) cp1 else tc j) (t * 8) (.slice (some ⟨g1, o1, none⟩) ((xk t).length + 1) cp1) (qv t) (lv t) := by
      obtain ⟨c0, ⟨a1, c1, _⟩, c2, c3, c4, c5, c6, c7, hl⟩ := h1
      refine ⟨by simp, ⟨a1, by simpa using c1, by simp⟩, by simpa using c2, by simpa using c3.nums hN, by simpa using c4.nums hN, by simpa using c5, by simpa using c6, by simpa using c7, hl⟩
    have := h.turn t (hT1.set (t * 8) _) (fun j hj => if_neg (by omega)) hN r2 hth
    rw [upd_self, upd_self] at this
    exact this
  · exact ((((((Ch.refl _ w).alloc _).alloc _).drew).app hs2 (.inr rfl) ha).setCell hT1 (.inl rfl) _ _).mono fun e (he : Ep e) => he.et

/-- A thread's tree, as update wants it. -/
theorem ThrQ.tree {w : World} {T : Nat} {tc xv qv : Nat → Value} {xk : Nat → List Nat} {lv : Nat → Nat} (h : ThrQ w T tc xv xk qv lv) {t : Nat} (ht : t ≤ 2) (hK : (xk t).length ≤ 10000) {sk : Nat} (hsk : sk ≤ 1) (hne : xv t ≠ .slice none 0 0) (hl : 1 ≤ lv t) :
    ∃ g cap sz c lg lc lsz, TreeC w T (t * 8) g (xk t).length cap sz (lv t) sk lg lc lsz tc c ∧ xv t = .slice (some ⟨g, 0, none⟩) (xk t).length cap ∧ Blk w g 87 sz c := by
  obtain ⟨c0, _, c2, c3, c4, c5, c6, c7, hlv⟩ := h.one t ht
  rcases h.rows.row t with ⟨h0, _⟩ | ⟨g, cap, sz, c, hv, h1, h2, h3, h4, h5⟩
  · exact absurd h0 hne
  · have hL : LeastV w (tc (t * 8 + 3 + sk)) (lv t) := by
      have : sk = 0 ∨ sk = 1 := by omega
      rcases this with rfl | rfl
      · exact c3
      · exact c4
    rcases hL with ⟨_, hl0⟩ | ⟨lg, lc, lsz, hlv', k1, k2, k3, k4⟩
    · omega
    · exact ⟨g, cap, sz, c, lg, lc, lsz, ⟨h.blk, by omega, c0.trans hv, c2, hlv', h3, h1, by omega, by unfold maxLen at h2; omega, h4, fun j hj => by
        obtain ⟨a0, _, _, _, _, a5⟩ := h5 j hj
        exact ⟨⟨_, a5⟩, a0⟩, k4, by omega, by omega, hsk⟩, hv, h3⟩

/-- update, on the threads' part. -/
theorem update_thr {w : World} {T : Nat} {tc xv qv : Nat → Value} {xk : Nat → List Nat} {lv : Nat → Nat} (h : ThrQ w T tc xv xk qv lv) {t : Nat} (ht : t ≤ 2) (hK : (xk t).length ≤ 10000) {sk i : Nat} (hsk : sk ≤ 1) (hne : xv t ≠ .slice none 0 0) (hi : i < lv t * 8) :
    Calls Yba.prog 38 #[.pointer (some ⟨T, t * 8, none⟩), .int .i64 (i : Int), .int .u8 (sk : Int)] w fun e w' => e = .returned (.tuple #[]) ∧ ThrQ w' T tc xv xk qv lv ∧ Ch Et w w' := by
  obtain ⟨g, cap, sz, c, lg, lc, lsz, hT, _, _⟩ := h.tree ht hK hsk hne (by omega)
  refine (update_any w T (t * 8) g _ cap sz (lv t) sk lg lc lsz i tc c hT hi).mono ?_
  rintro e w' ⟨rfl, hu, h1⟩
  obtain ⟨x, hx⟩ := hT.nums
  have hn : Nums w w' := Nums.one h1 hT.nums hu
  exact ⟨rfl, ⟨h1.blk h.blk (h.blk.ne hx (by decide)), fun u hu => (h.one u hu).turn hn fun _ _ _ => rfl, h.rows.of_blocks KRow.loc fun k _ _ hk => h1.block k (hk.ne hx (by decide))⟩, Ch.one h1 hx (.inr (.inl rfl))⟩

/-- grow, on the threads' part. -/
theorem grow_thr {w : World} {T : Nat} {tc xv qv : Nat → Value} {xk : Nat → List Nat} {lv : Nat → Nat} (h : ThrQ w T tc xv xk qv lv) {t : Nat} (ht : t ≤ 2) (hK : (xk t).length ≤ 10000) (hne : xv t ≠ .slice none 0 0) :
    Calls Yba.prog 39 #[.pointer (some ⟨T, t * 8, none⟩)] w fun e w' => e = .returned (.tuple #[]) ∧ ∃ tc' l', (xk t).length ≤ l' * 8 ∧ ThrQ w' T tc' xv xk qv (upd lv t l') ∧ Ch Et w w' := by
  have h1 := h.one t ht
  rcases h.rows.row t with ⟨h0, _⟩ | ⟨g, cap, sz, c, hv, k1, k2, k3, k4, k5⟩
  · exact absurd h0 hne
  · refine (grow_any T (t * 8) g _ cap sz (lv t) (lv t) tc c w h.blk (by omega) (h1.c0.trans hv) h1.c3 h1.c4 k3 k1 hK k2 k4 (fun j hj => by
      obtain ⟨a0, _, _, _, _, a5⟩ := k5 j hj
      exact ⟨⟨_, a5⟩, a0⟩) ⟨_, h1.c2⟩).mono ?_
    rintro e w' ⟨rfl, l', pc', b1, b2, b3, b4, b5, b6, b7, b8, b9, b10⟩
    refine ⟨rfl, pc', l', b2, ?_, b9.mono fun e he => Eg.et he⟩
    have hr : Fam KRow w' (upd xv t (xv t)) (upd xk t (xk t)) := by
      rw [upd_self, upd_self]
      exact h.rows.ch KRow.loc b9 (by unfold Eg; decide)
    have := h.turn t b4 (fun j hj => b8 j (by omega) (by omega) (by omega)) b10 (q' := qv t) (lv' := l') hr ⟨(b8 _ (by omega) (by omega) (by omega)).trans h1.c0, by rw [b8 _ (by omega) (by omega) (by omega)]; exact h1.c1, b5, b6, b7, (b8 _ (by omega) (by omega) (by omega)).trans h1.c5, (b8 _ (by omega) (by omega) (by omega)).trans h1.c6, (b8 _ (by omega) (by omega) (by omega)).trans h1.c7, b3⟩
    rw [upd_self, upd_self, upd_self] at this
    exact this

/-- The box of a section, as a row of its own (the seventh). -/
theorem ThrQ.box {w : World} {T : Nat} {tc xv qv : Nat → Value} {xk : Nat → List Nat} {lv : Nat → Nat} (h : ThrQ w T tc xv xk qv lv) (s : Int) (kd : Nat) :
    ThrQ (w.alloc (.cells (secC s kd) 87)) T tc (upd xv 7 (.slice (some ⟨w.heap.size, 0, none⟩) 1 1)) (upd xk 7 [kd]) qv lv := by
  have hbl : Below w.heap.size w (w.alloc (.cells (secC s kd) 87)) := (Below.refl _ _).alloc (Nat.le_refl _) _
  have hbx : Blk (w.alloc (.cells (secC s kd) 87)) w.heap.size 87 6 (secN s kd) := Blk.new w _ 87 h.blk.room rfl fun j hj => by
    have : j = 0 ∨ j = 1 ∨ j = 2 ∨ j = 3 ∨ j = 4 ∨ j = 5 := by omega
    rcases this with rfl | rfl | rfl | rfl | rfl | rfl <;> rfl
  refine ⟨h.blk.alloc _, fun u hu => ?_, h.rows.turn KRow.loc 7 (.inr ⟨w.heap.size, 1, 6, secN s kd, rfl, Nat.le_refl _, by decide, hbx, Nat.le_refl _, fun j hj => ?_⟩) (fun g hg _ => hbl.block g hg) fun g hg => ?_⟩
  · rw [upd_other _ _ (by omega)]
    exact (h.one u hu).turn (Nums.below hbl) fun _ _ _ => rfl
  · have : j = 0 := by simpa using hj
    subst this
    exact ⟨⟨s, rfl⟩, rfl, rfl, rfl, rfl, rfl⟩
  · simp [Value.ownBlock] at hg
    exact .inr (by omega)

theorem ThrQ.unbox {w : World} {T : Nat} {tc xv qv : Nat → Value} {xk : Nat → List Nat} {lv : Nat → Nat} {t : Nat} {b v' : Value} {l K' : List Nat} (h : ThrQ w T tc (upd (upd xv 7 b) t v') (upd (upd xk 7 l) t K') qv lv) (ht : t ≤ 2) (h7 : xv 7 = .slice none 0 0) (k7 : xk 7 = []) : ThrQ w T tc (upd xv t v') (upd xk t K') qv lv := by
  have hr := h.rows.turn KRow.loc 7 (w' := w) (v' := .slice none 0 0) (L' := []) (.inl ⟨rfl, rfl⟩) (fun _ _ _ => rfl) (fun g hg => by simp [Value.ownBlock] at hg)
  have e1 : upd (upd (upd xv 7 b) t v') 7 (.slice none 0 0) = upd xv t v' := by
    funext j
    by_cases h1 : j = 7
    · have : ¬ j = t := by omega
      simp [upd, h1, h7]
      omega
    · simp [upd, h1]
  have e2 : upd (upd (upd xk 7 l) t K') 7 [] = upd xk t K' := by
    funext j
    by_cases h1 : j = 7
    · simp [upd, h1, k7]
      omega
    · simp [upd, h1]
  rw [e1, e2] at hr
  refine ⟨h.blk, fun u hu => ?_, hr⟩
  have := h.one u hu
  have e3 : upd (upd xv 7 b) t v' u = upd xv t v' u := by
    have : ¬ u = 7 := by omega
    simp [upd, this]
  rwa [e3] at this

set_option maxRecDepth 100000 in
set_option maxHeartbeats 1000000 in
theorem add_any {w : World} {T : Nat} {xv qv : Nat → Value} {xk : Nat → List Nat} (h : ThrP w T xv xk qv) (t : Nat) (ht : t ≤ 2) (hK : (xk t).length ≤ 9000) (s : Int) (kd : Nat) (hkd : kd ≤ 1) :
    Calls Yba.prog 31 #[.pointer (some ⟨T, t * 8, none⟩), .agg #[.int .u64 s, .int .u64 0, .int .u64 0, .pointer none, .int .u32 0, .int .u8 (kd : Int)]] w fun e w' => e = .returned (.int .i32 ((xk t).length : Int)) ∧
      ∃ v', ThrP w' T (upd xv t v') (upd xk t (xk t ++ [kd])) qv ∧ Ch Et w w' := by
  obtain ⟨tc, lv, hq, hbig, hhigh⟩ := h
  have h7 := hhigh 7 (by omega) (by omega)
  have t7 : t ≠ 7 := by omega
  have cl := push_any (hq.box s kd) t ht (by rw [upd_other _ _ t7]; omega) s kd
  rw [upd_other _ _ t7] at cl
  unfold secC at cl
  have ch0 : Ch Et w (w.alloc (.cells #[.int .u64 s, .int .u64 0, .int .u64 0, .pointer none, .int .u32 0, .int .u8 (kd : Int)] 87)) := (Ch.refl _ _).alloc _
  have hKI : ((xk t).length : Int) ≤ 9000 := by omega
  have hI0 : (0 : Int) ≤ (lv t : Int) := by omega
  have hI1 : (lv t : Int) ≤ 20000 := by have := (hq.one t ht).hlv; omega
  have fin : ∀ w' tc' l' v', ThrQ w' T tc' (upd (upd xv 7 (.slice (some ⟨w.heap.size, 0, none⟩) 1 1)) t v') (upd (upd xk 7 [kd]) t (xk t ++ [kd])) qv (upd lv t l') → (xk t).length + 1 ≤ l' * 8 → ThrP w' T (upd xv t v') (upd xk t (xk t ++ [kd])) qv := fun w' tc' l' v' hz hl => by
    refine ⟨tc', upd lv t l', hz.unbox ht h7.1 h7.2, fun u hu => ?_, fun u hu => ?_⟩
    · by_cases e : u = t
      · subst e
        rw [upd_same, upd_same]
        simpa using hl
      · rw [upd_other _ _ e, upd_other _ _ e]
        exact hbig u hu
    · rw [upd_other _ _ (by omega), upd_other _ _ (by omega)]
      exact hhigh u hu
  go_enter Yba.func31, Yba.ntmps31
  go_wp2_with fail
  refine cl.mono ?_
  rintro e w1 ⟨rfl, v', tc', hv', hq2, hc2⟩
  have c2 : w1.cell? ⟨T, t * 8 + 2, none⟩ = some (.int .i64 (lv t : Int)) := (hq2.blk.cell (by omega)).trans (by rw [(hq2.one t ht).c2])
  have c5 : w1.cell? ⟨w.heap.size, 5, none⟩ = some (.int .u8 (kd : Int)) := by
    have hr := hq2.rows.row 7
    rw [upd_other _ _ (fun h => t7 h.symm), upd_other _ _ (fun h => t7 h.symm), upd_same, upd_same] at hr
    rcases hr with ⟨h0, _⟩ | ⟨g, cap, sz, c, hv, k1, k2, k3, k4, k5⟩
    · simp at h0
    · simp at hv
      obtain ⟨rfl, rfl⟩ := hv
      have := (k5 0 (by simp)).2.2.2.2.2
      exact (k3.cell (by omega)).trans (by simpa using this)
  by_cases hlt : (xk t).length < lv t * 8
  · have hI : ((xk t).length : Int) < (lv t : Int) * 8 := by omega
    have cu := update_thr hq2 ht (sk := kd) (i := (xk t).length) (by rw [upd_same]; simp; omega) hkd (by rw [upd_same]; exact hv') hlt
    go_wp2_with fail
    refine cu.mono ?_
    rintro e w2 ⟨rfl, hq3, hc3⟩
    go_wp2
    go_ret
    exact ⟨rfl, v', fin w2 tc' (lv t) v' (by rw [upd_self]; exact hq3) (by omega), (ch0.trans hc2).trans hc3⟩
  · have hI : decide (((xk t).length : Int) < (lv t : Int) * 8) = false := by simp; omega
    have cu := grow_thr hq2 ht (by rw [upd_same]; simp; omega) (by rw [upd_same]; exact hv')
    go_wp2_with fail
    refine cu.mono ?_
    rintro e w2 ⟨rfl, tc3, l3, hl3, hq3, hc3⟩
    rw [upd_same] at hl3
    go_wp2
    go_ret
    exact ⟨rfl, v', fin w2 tc3 l3 v' hq3 (by simpa using hl3), (ch0.trans hc2).trans hc3⟩

#print axioms add_any
end Go.Proofs.Ybulkbzhm
