import Derived.Test.YbulkbzccReport
import Derived.Deep.RegionWith
namespace Go.Proofs.Ybulkbzcc
open Go.RowKit Go.Maps

theorem staleC (C : Nat) {w : World} {B M n k : Nat} {cyc : Int} {f : Int → Option Value} {o : Int → Bool} {s : Int → Int} (h : CacheOK w B C M n k cyc f o s) (x : Int) (hx : (Lit.int .i64 x).wf = true) (hf : f x ≠ none) (ob : Bool) (sv : Int) (ho : o x = ob) (hs : ob = true → s x = sv) :
    Calls Yba.prog 14 #[.pointer (some ⟨C, 0, none⟩), .int .i64 x] w fun e w' => e = .returned (.tuple #[.int .i64 (if ob then sv else 0), .bool ob]) ∧ w' = w := by
  obtain ⟨v, hv⟩ := Option.ne_none_iff_exists'.1 hf
  obtain ⟨E, rfl, _, ce, hE, _, e4, e5⟩ := h.ent x v hv
  obtain ⟨c, hC, _, _, c2, _⟩ := h.blk
  have := stale_some C E x (o x) (s x) M n f w ((hC.cell (i := 2) (by omega)).trans (by rw [c2])) h.map hx hv ((hE.cell (i := 4) (by omega)).trans (by rw [e4])) ((hE.cell (i := 5) (by omega)).trans (by rw [e5]))
  rw [ho] at this
  cases ob
  · exact this
  · rw [hs rfl] at this
    exact this

theorem staleC_none (C : Nat) {w : World} {B M n k : Nat} {cyc : Int} {f : Int → Option Value} {o : Int → Bool} {s : Int → Int} (h : CacheOK w B C M n k cyc f o s) (x : Int) (hx : (Lit.int .i64 x).wf = true) (hf : f x = none) :
    Calls Yba.prog 14 #[.pointer (some ⟨C, 0, none⟩), .int .i64 x] w fun e w' => e = .returned (.tuple #[.int .i64 0, .bool false]) ∧ w' = w := by
  obtain ⟨c, hC, _, _, c2, _⟩ := h.blk
  exact stale_none C x M n f w ((hC.cell (i := 2) (by omega)).trans (by rw [c2])) h.map hx hf

/-- One key laid into a new map; the world under a name of its own. -/
theorem ins_one (x : Int) (hx : (Lit.int .i64 x).wf = true) : ∃ U : World → World, ∀ wx : World, (Instr.mapUpdate 65 (.map (some wx.heap.size)) (.int .i64 x) (.bool true)).run Yba.prog (wx.alloc (.map #[] 0)) = .ok () (U wx) ∧
    MapI (U wx) Yba.prog 3 .i64 wx.heap.size 1 (fun y => if y = x then some (.bool true) else none) ∧ (wx.alloc (.map #[] 0)).mapTurned (U wx) wx.heap.size := by
  have h : ∀ wx : World, ∃ w', (Instr.mapUpdate 65 (.map (some wx.heap.size)) (.int .i64 x) (.bool true)).run Yba.prog (wx.alloc (.map #[] 0)) = .ok () w' ∧
      MapI w' Yba.prog 3 .i64 wx.heap.size 1 (fun y => if y = x then some (.bool true) else none) ∧ (wx.alloc (.map #[] 0)).mapTurned w' wx.heap.size := fun wx =>
    (MapI.made wx Yba.prog 3 .i64).run_update Yba.underlying3 Yba.underlying65 (by decide) hx (.bool true)
  exact Classical.skolem.1 h

theorem ins_one_drew (x : Int) (hx : (Lit.int .i64 x).wf = true) : ∃ U : World → World, ∀ wx : World, (Instr.mapUpdate 65 (.map (some wx.heap.size)) (.int .i64 x) (.bool true)).run Yba.prog (wx.alloc (.map #[] 0)).drew = .ok () (U wx) ∧
    MapI (U wx) Yba.prog 3 .i64 wx.heap.size 1 (fun y => if y = x then some (.bool true) else none) ∧ (wx.alloc (.map #[] 0)).drew.mapTurned (U wx) wx.heap.size := by
  have h : ∀ wx : World, ∃ w', (Instr.mapUpdate 65 (.map (some wx.heap.size)) (.int .i64 x) (.bool true)).run Yba.prog (wx.alloc (.map #[] 0)).drew = .ok () w' ∧
      MapI w' Yba.prog 3 .i64 wx.heap.size 1 (fun y => if y = x then some (.bool true) else none) ∧ (wx.alloc (.map #[] 0)).drew.mapTurned w' wx.heap.size := fun wx =>
    ((MapI.made wx Yba.prog 3 .i64).of_block (w' := (wx.alloc (.map #[] 0)).drew) rfl).run_update Yba.underlying3 Yba.underlying65 (by decide) hx (.bool true)
  exact Classical.skolem.1 h

theorem ins_two (U : World → World) (x y : Int) (hy : (Lit.int .i64 y).wf = true) (hU : ∀ wx : World, MapI (U wx) Yba.prog 3 .i64 wx.heap.size 1 (fun z => if z = x then some (.bool true) else none)) :
    ∃ V : World → World, ∀ wx : World, (Instr.mapUpdate 65 (.map (some wx.heap.size)) (.int .i64 y) (.bool true)).run Yba.prog (U wx) = .ok () (V wx) ∧
      MapI (V wx) Yba.prog 3 .i64 wx.heap.size 2 (fun z => if z = y then some (.bool true) else if z = x then some (.bool true) else none) ∧ (U wx).mapTurned (V wx) wx.heap.size := by
  have h : ∀ wx : World, ∃ w', (Instr.mapUpdate 65 (.map (some wx.heap.size)) (.int .i64 y) (.bool true)).run Yba.prog (U wx) = .ok () w' ∧
      MapI w' Yba.prog 3 .i64 wx.heap.size 2 (fun z => if z = y then some (.bool true) else if z = x then some (.bool true) else none) ∧ (U wx).mapTurned w' wx.heap.size := fun wx =>
    (hU wx).run_update Yba.underlying3 Yba.underlying65 (by decide) hy (.bool true)
  exact Classical.skolem.1 h

theorem CacheOK.newmap {w w' : World} {B C M n k : Nat} {cyc : Int} {f : Int → Option Value} {o : Int → Bool} {s : Int → Int} (h : CacheOK w B C M n k cyc f o s) (hb : ∀ g, g < w.heap.size → w'.heap[g]? = w.heap[g]?) : CacheOK w' B C M n k cyc f o s :=
  h.of_blocks (fun g _ _ _ hbk => hb g hbk.lt) (hb M h.map.lt)

theorem newCacheOK (w w1 : World) (hmap : MapI w1 Yba.prog 3 .i64 w.heap.size 0 (fun _ => none))
    (hrow : w1.heap[w.heap.size + 1]? = some (.cells #[.int .i64 4, .int .i64 0, .map (some w.heap.size), .int .i64 0, .int .i64 0, .string ⟨#[]⟩, .int .i64 0, .bool false, .int .i64 0, .int .i64 0, .pointer (some ⟨w.heap.size + 1, 3, none⟩), .pointer (some ⟨w.heap.size + 1, 3, none⟩), .slice none 0 0, .int .i64 0, .map none, .bool false] 87 (0, 0))) :
    CacheOK w1 w.heap.size (w.heap.size + 1) w.heap.size 0 0 0 (fun _ => none) (fun _ => false) (fun _ => 0) :=
  ⟨⟨by omega, Nat.le_refl _⟩, ⟨_, Blk.of_row hrow, rfl, rfl, rfl, rfl, ⟨_, _, rfl, .inl ⟨rfl, rfl⟩⟩, 0, fun _ => undef, Nat.le_refl _, .inl ⟨rfl, rfl⟩, fun g hg => by simp [Value.ownBlock] at hg⟩, hmap, fun x v h => by cases h⟩

theorem two_facts {w : World} {B C M n k E1 E2 : Nat} {cyc a kb : Int} (h : CacheOK w B C M n k cyc (fun y => if y = kb then some (.pointer (some ⟨E2, 0, none⟩)) else if y = a then some (.pointer (some ⟨E1, 0, none⟩)) else none) (fun y => if y = kb then false else if y = a then false else false) (fun y => if y = kb then 0 else if y = a then 0 else 0))
    (hne : kb ≠ a) (ha : a ≤ 127) (hb : kb ≤ 128) : ∃ F O S, CacheOK w B C M n k cyc F O S ∧ F a ≠ none ∧ F kb ≠ none ∧ F 1000 = none ∧ O a = false ∧ O kb = false := by
  refine ⟨_, _, _, h, ?_, ?_, ?_, ?_, ?_⟩
  · have : a ≠ kb := fun e => hne e.symm
    simp [this]
  · simp
  · have h1 : (1000 : Int) ≠ kb := by omega
    have h2 : (1000 : Int) ≠ a := by omega
    simp [h1, h2]
  · simp
  · simp

theorem ins_pair {w4 U1 U2 : World} (t1 : (w4.alloc (.map #[] 0)).drew.mapTurned U1 w4.heap.size) (t2 : U1.mapTurned U2 w4.heap.size) : U2.heap.size = w4.heap.size + 1 ∧ (∀ g, g < w4.heap.size → U2.heap[g]? = w4.heap[g]?) ∧ Below w4.heap.size w4 U2 := by
  have h1 : U1.heap.size = w4.heap.size + 1 := by rw [mapTurned_size t1]; simp
  have h2 : U2.heap.size = w4.heap.size + 1 := by rw [mapTurned_size t2]; exact h1
  have h3 : ∀ g, g < w4.heap.size → U2.heap[g]? = w4.heap[g]? := fun g hg => (mapTurned_block t2 (by omega)).trans ((mapTurned_block t1 (by omega)).trans (Below.heap_alloc _ _ _ hg))
  exact ⟨h2, h3, ⟨t2.grown.os.trans t1.grown.os, t2.grown.tape.trans t1.grown.tape, t2.grown.output.trans t1.grown.output, by omega, h3⟩⟩

/-- The two keys of the second report. -/
def twoKeys (a kb : Int) (z : Int) : Option Value := if z = a ∨ z = kb then some (.bool true) else none

theorem twoKeys_a (a kb : Int) : twoKeys a kb a ≠ none := by simp [twoKeys]
theorem twoKeys_b (a kb : Int) : twoKeys a kb kb ≠ none := by simp [twoKeys]

set_option maxRecDepth 100000 in
set_option maxHeartbeats 2000000 in
theorem reports_core (a b kb c1 c2 : Int) (w : World) (ha0 : -128 ≤ a) (ha1 : a ≤ 127) (hb0 : -128 ≤ b) (hb1 : b ≤ 127) (hk : (b = a ∧ kb = a + 1) ∨ (b ≠ a ∧ kb = b)) :
    Calls Yba.prog 6 #[.int .i8 a, .int .i8 b, .int .i64 c1, .int .i64 c2] w fun e w' => e = .returned (.bool true) ∧ Below w.heap.size w w' := by
  have hkb : kb ≠ a := by omega
  have hwa : (Lit.int .i64 a).wf = true := WalkArith.wf_i64 (by omega)
  have hwb : (Lit.int .i64 kb).wf = true := WalkArith.wf_i64 (by omega)
  have hwo : (Lit.int .i64 1000).wf = true := by decide
  obtain ⟨U, hU⟩ := ins_one a hwa
  obtain ⟨U1, hU1⟩ := ins_one_drew a hwa
  obtain ⟨U2, hU2⟩ := ins_two U1 a kb hwb (fun wx => (hU1 wx).2.1)
  obtain ⟨V1, hV1⟩ := ins_one_drew kb hwb
  obtain ⟨V2, hV2⟩ := ins_two V1 kb a hwa (fun wx => (hV1 wx).2.1)
  have rV1 := fun wx => (hV1 wx).1
  have rV2 := fun wx => (hV2 wx).1
  have rU := fun wx => (hU wx).1
  have rU1 := fun wx => (hU1 wx).1
  have rU2 := fun wx => (hU2 wx).1
  have hmm := @run_makeMap Yba.prog
  rcases hk with ⟨hba, hkk⟩ | ⟨hba, hkk⟩
  · have hbeq : (b == a) = true := by simpa using hba
    subst hkk
    clear hba
    go_enter Yba.func6, Yba.ntmps6
    go_wp2_with fail
    refine (newCache_any w).mono ?_
    rintro e w1 ⟨rfl, hbel1, hmap1, hrow1, hz1⟩
    have hc1 := newCacheOK w w1 hmap1 hrow1
    go_wp2_with fail
    refine (put_any w.heap.size (w.heap.size + 1) w.heap.size 0 0 _ _ _ a 0 1 ⟨#[120]⟩ w1 hc1 (by omega) hwa rfl).mono ?_
    rintro e w2 ⟨rfl, E1, hc2, hbel2⟩
    go_wp2_with fail
    refine (put_any w.heap.size (w.heap.size + 1) w.heap.size 1 0 _ _ _ (a + 1) 0 2 ⟨#[121]⟩ w2 hc2 (by omega) hwb (by simp [hkb])).mono ?_
    rintro e w3 ⟨rfl, E2, hc3, hbel3⟩
    have hbw3 : Below w.heap.size w w3 := (hbel1.trans hbel2).trans hbel3
    obtain ⟨F, O, S, hcc, hFa, hFb, hFo, hOa, hOb⟩ := two_facts hc3 hkb (by omega) (by omega)
    clear hc3 hc2 hc1 hmap1 hrow1
    go_wp2_with fail
    refine (staleC (w.heap.size + 1) hcc a hwa hFa false 0 hOa (by simp)).mono ?_
    rintro e w3' ⟨rfl, he3⟩
    subst he3
    have hm4 := (hU w3').2.1
    have ht4 := (hU w3').2.2
    have hz4 : (U w3').heap.size = w3'.heap.size + 1 := by rw [mapTurned_size ht4]; simp
    have hkeep4 : ∀ g, g < w3'.heap.size → (U w3').heap[g]? = w3'.heap[g]? := fun g hg => (mapTurned_block ht4 (by omega)).trans (Below.heap_alloc _ _ _ hg)
    have hcU := hcc.newmap hkeep4
    have hbU : Below w3'.heap.size w3' (U w3') := ⟨ht4.grown.os, ht4.grown.tape, ht4.grown.output, by omega, hkeep4⟩
    have hsz3 : w.heap.size ≤ w3'.heap.size := hbw3.size
    go_wp2_with fail
    refine (report_any w.heap.size (w.heap.size + 1) w.heap.size 2 0 w3'.heap.size 1 0 c1 F _ O S (U w3') hcU hm4 (by omega) (by omega)).mono ?_
    rintro e w4 ⟨rfl, k4, O4, S4, hc4, hk4, hyes4, hno4, hbel4⟩
    have hO4a := hyes4 a (by simp) hFa hOa
    have hO4b := hno4 (a + 1) (by simp [hkb])
    have hO4b' : O4 (a + 1) = false := hO4b.1.trans hOb
    have hbw4 : Below w.heap.size w w4 := (hbw3.trans (hbU.mono hsz3)).trans hbel4
    clear hyes4 hno4 hO4b hcU hcc hm4 ht4 hz4 hkeep4 hbU
    go_wp2_with fail
    refine (staleC (w.heap.size + 1) hc4 a hwa hFa true c1 hO4a.1 (fun _ => hO4a.2)).mono ?_
    rintro e w4' ⟨rfl, he4⟩
    subst he4
    go_wp2_with fail
    refine (staleC (w.heap.size + 1) hc4 (a + 1) hwb hFb false 0 hO4b' (by simp)).mono ?_
    rintro e w4' ⟨rfl, he4⟩
    subst he4
    have hm5 : MapI (U2 w4') Yba.prog 3 .i64 w4'.heap.size 2 (twoKeys a (a + 1)) := (hU2 w4').2.1.congr (fun z => by by_cases h1 : z = a <;> by_cases h2 : z = a + 1 <;> simp [twoKeys, h1, h2])
    have hm6 : MapI (V2 w4') Yba.prog 3 .i64 w4'.heap.size 2 (twoKeys a (a + 1)) := (hV2 w4').2.1.congr (fun z => by by_cases h1 : z = a <;> by_cases h2 : z = a + 1 <;> simp [twoKeys, h1, h2])
    obtain ⟨hz5, hkeep5, hb5⟩ := ins_pair (hU1 w4').2.2 (hU2 w4').2.2
    obtain ⟨hz6, hkeep6, hb6⟩ := ins_pair (hV1 w4').2.2 (hV2 w4').2.2
    have hcU := hc4.newmap hkeep5
    have hcV := hc4.newmap hkeep6
    have hsz4 : w.heap.size ≤ w4'.heap.size := hbw4.size
    go_wp2_with fail
    have hs5 : w.heap.size ≤ (U2 w4').heap.size := by omega
    have hs6 : w.heap.size ≤ (V2 w4').heap.size := by omega
    have H5 : Hid ((U2 w4').heap.size = w4'.heap.size + 1) := hz5
    have H6 : Hid ((V2 w4').heap.size = w4'.heap.size + 1) := hz6
    clear hz5 hz6 hkeep5 hkeep6
    have hO4aT := hO4a.1
    have hS4a := hO4a.2
    have hka := twoKeys_a a (a + 1)
    have hkk := twoKeys_b a (a + 1)
    go_region_with (go_at_call 15; refine (report_any w.heap.size (w.heap.size + 1) w.heap.size 2 k4 w4'.heap.size 2 c1 c2 F (twoKeys a (a + 1)) O4 S4 _ ?_ ?_ (by omega) ?_).mono ?_; (first | exact hcU | exact hcV); (first | exact hm5 | exact hm6); (first | exact hs5 | exact hs6); rintro e w5 ⟨rfl, k5, O5, S5, hc5, hk5, hyes5, hno5, hbel5⟩)
    all_goals
      have q1 := hno5 a (fun h => by rw [hO4aT] at h; simp at h)
      have q2 := hyes5 (a + 1) hkk hFb hO4b'
      have q1o := q1.1.trans hO4aT
      have q1s := q1.2.trans hS4a
      go_wp2_with fail
      refine (staleC (w.heap.size + 1) hc5 a hwa hFa true c1 q1o (fun _ => q1s)).mono ?_
      rintro e w5' ⟨rfl, he5⟩
      subst he5
      go_wp2_with fail
      refine (staleC (w.heap.size + 1) hc5 (a + 1) hwb hFb true c2 q2.1 (fun _ => q2.2)).mono ?_
      rintro e w5' ⟨rfl, he5⟩
      subst he5
      go_wp2_with fail
      refine (staleC_none (w.heap.size + 1) hc5 1000 hwo hFo).mono ?_
      rintro e w5' ⟨rfl, he5⟩
      subst he5
      go_wp2
      go_ret
      exact ⟨rfl, (hbw4.trans (Below.mono (by first | exact hb5 | exact hb6) hsz4)).trans hbel5⟩
  · have hbeq : (b == a) = false := by simpa using hba
    subst hkk
    clear hba
    go_enter Yba.func6, Yba.ntmps6
    go_wp2_with fail
    refine (newCache_any w).mono ?_
    rintro e w1 ⟨rfl, hbel1, hmap1, hrow1, hz1⟩
    have hc1 := newCacheOK w w1 hmap1 hrow1
    go_wp2_with fail
    refine (put_any w.heap.size (w.heap.size + 1) w.heap.size 0 0 _ _ _ a 0 1 ⟨#[120]⟩ w1 hc1 (by omega) hwa rfl).mono ?_
    rintro e w2 ⟨rfl, E1, hc2, hbel2⟩
    go_wp2_with fail
    refine (put_any w.heap.size (w.heap.size + 1) w.heap.size 1 0 _ _ _ (kb) 0 2 ⟨#[121]⟩ w2 hc2 (by omega) hwb (by simp [hkb])).mono ?_
    rintro e w3 ⟨rfl, E2, hc3, hbel3⟩
    have hbw3 : Below w.heap.size w w3 := (hbel1.trans hbel2).trans hbel3
    obtain ⟨F, O, S, hcc, hFa, hFb, hFo, hOa, hOb⟩ := two_facts hc3 hkb (by omega) (by omega)
    clear hc3 hc2 hc1 hmap1 hrow1
    go_wp2_with fail
    refine (staleC (w.heap.size + 1) hcc a hwa hFa false 0 hOa (by simp)).mono ?_
    rintro e w3' ⟨rfl, he3⟩
    subst he3
    have hm4 := (hU w3').2.1
    have ht4 := (hU w3').2.2
    have hz4 : (U w3').heap.size = w3'.heap.size + 1 := by rw [mapTurned_size ht4]; simp
    have hkeep4 : ∀ g, g < w3'.heap.size → (U w3').heap[g]? = w3'.heap[g]? := fun g hg => (mapTurned_block ht4 (by omega)).trans (Below.heap_alloc _ _ _ hg)
    have hcU := hcc.newmap hkeep4
    have hbU : Below w3'.heap.size w3' (U w3') := ⟨ht4.grown.os, ht4.grown.tape, ht4.grown.output, by omega, hkeep4⟩
    have hsz3 : w.heap.size ≤ w3'.heap.size := hbw3.size
    go_wp2_with fail
    refine (report_any w.heap.size (w.heap.size + 1) w.heap.size 2 0 w3'.heap.size 1 0 c1 F _ O S (U w3') hcU hm4 (by omega) (by omega)).mono ?_
    rintro e w4 ⟨rfl, k4, O4, S4, hc4, hk4, hyes4, hno4, hbel4⟩
    have hO4a := hyes4 a (by simp) hFa hOa
    have hO4b := hno4 (kb) (by simp [hkb])
    have hO4b' : O4 (kb) = false := hO4b.1.trans hOb
    have hbw4 : Below w.heap.size w w4 := (hbw3.trans (hbU.mono hsz3)).trans hbel4
    clear hyes4 hno4 hO4b hcU hcc hm4 ht4 hz4 hkeep4 hbU
    go_wp2_with fail
    refine (staleC (w.heap.size + 1) hc4 a hwa hFa true c1 hO4a.1 (fun _ => hO4a.2)).mono ?_
    rintro e w4' ⟨rfl, he4⟩
    subst he4
    go_wp2_with fail
    refine (staleC (w.heap.size + 1) hc4 (kb) hwb hFb false 0 hO4b' (by simp)).mono ?_
    rintro e w4' ⟨rfl, he4⟩
    subst he4
    have hm5 : MapI (U2 w4') Yba.prog 3 .i64 w4'.heap.size 2 (twoKeys a (kb)) := (hU2 w4').2.1.congr (fun z => by by_cases h1 : z = a <;> by_cases h2 : z = kb <;> simp [twoKeys, h1, h2])
    have hm6 : MapI (V2 w4') Yba.prog 3 .i64 w4'.heap.size 2 (twoKeys a (kb)) := (hV2 w4').2.1.congr (fun z => by by_cases h1 : z = a <;> by_cases h2 : z = kb <;> simp [twoKeys, h1, h2])
    obtain ⟨hz5, hkeep5, hb5⟩ := ins_pair (hU1 w4').2.2 (hU2 w4').2.2
    obtain ⟨hz6, hkeep6, hb6⟩ := ins_pair (hV1 w4').2.2 (hV2 w4').2.2
    have hcU := hc4.newmap hkeep5
    have hcV := hc4.newmap hkeep6
    have hsz4 : w.heap.size ≤ w4'.heap.size := hbw4.size
    go_wp2_with fail
    have hs5 : w.heap.size ≤ (U2 w4').heap.size := by omega
    have hs6 : w.heap.size ≤ (V2 w4').heap.size := by omega
    have H5 : Hid ((U2 w4').heap.size = w4'.heap.size + 1) := hz5
    have H6 : Hid ((V2 w4').heap.size = w4'.heap.size + 1) := hz6
    clear hz5 hz6 hkeep5 hkeep6
    have hO4aT := hO4a.1
    have hS4a := hO4a.2
    have hka := twoKeys_a a (kb)
    have hkk := twoKeys_b a (kb)
    go_region_with (go_at_call 15; refine (report_any w.heap.size (w.heap.size + 1) w.heap.size 2 k4 w4'.heap.size 2 c1 c2 F (twoKeys a (kb)) O4 S4 _ ?_ ?_ (by omega) ?_).mono ?_; (first | exact hcU | exact hcV); (first | exact hm5 | exact hm6); (first | exact hs5 | exact hs6); rintro e w5 ⟨rfl, k5, O5, S5, hc5, hk5, hyes5, hno5, hbel5⟩)
    all_goals
      have q1 := hno5 a (fun h => by rw [hO4aT] at h; simp at h)
      have q2 := hyes5 (kb) hkk hFb hO4b'
      have q1o := q1.1.trans hO4aT
      have q1s := q1.2.trans hS4a
      go_wp2_with fail
      refine (staleC (w.heap.size + 1) hc5 a hwa hFa true c1 q1o (fun _ => q1s)).mono ?_
      rintro e w5' ⟨rfl, he5⟩
      subst he5
      go_wp2_with fail
      refine (staleC (w.heap.size + 1) hc5 (kb) hwb hFb true c2 q2.1 (fun _ => q2.2)).mono ?_
      rintro e w5' ⟨rfl, he5⟩
      subst he5
      go_wp2_with fail
      refine (staleC_none (w.heap.size + 1) hc5 1000 hwo hFo).mono ?_
      rintro e w5' ⟨rfl, he5⟩
      subst he5
      go_wp2
      go_ret
      exact ⟨rfl, (hbw4.trans (Below.mono (by first | exact hb5 | exact hb6) hsz4)).trans hbel5⟩
end Go.Proofs.Ybulkbzcc
