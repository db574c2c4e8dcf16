import Derived.Test.YbulkbzccStale8
namespace Go.Proofs.Ybulkbzcc
open Go.RowKit Go.Maps

/-- What the law's first loop has made of the first k items: the map's view f and the entries that it leads to. -/
def Model.Inv (It : Nat → Int) (Old : Nat → Bool) (Si : Nat → Int) (B : Nat) (w : World) (k : Nat) (f : Int → Option Value) : Prop :=
  (∀ x, (∀ j, j < k → It j ≠ x) → f x = none) ∧
  (∀ j, j < k → (∀ i, i < j → It i ≠ It j) → ∃ c, B < c ∧ c < w.heap.size ∧ f (It j) = some (.pointer (some ⟨c, 0, none⟩)) ∧ w.cell? ⟨c, 4, none⟩ = some (.bool (Old j)) ∧ w.cell? ⟨c, 5, none⟩ = some (.int .i64 (Si j)))

theorem first_of (It : Nat → Int) (x : Int) : ∀ k, (∀ j, j < k → It j ≠ x) ∨ ∃ j, j < k ∧ It j = x ∧ ∀ i, i < j → It i ≠ It j
  | 0 => .inl (by omega)
  | k + 1 => by
    rcases first_of It x k with h | ⟨j, h1, h2, h3⟩
    · by_cases e : It k = x
      · exact .inr ⟨k, by omega, e, fun i hi => by rw [e]; exact h i hi⟩
      · refine .inl fun j hj => ?_
        by_cases e1 : j = k
        · subst e1; exact e
        · exact h j (by omega)
    · exact .inr ⟨j, by omega, h2, h3⟩


theorem Model.Inv.start (It : Nat → Int) (Old : Nat → Bool) (Si : Nat → Int) (B : Nat) (w : World) : Model.Inv It Old Si B w 0 (fun _ => none) := ⟨fun _ _ => rfl, fun j hj => by omega⟩

/-- The key was there already. -/
theorem Model.Inv.seen {It : Nat → Int} {Old : Nat → Bool} {Si : Nat → Int} {B : Nat} {w : World} {k : Nat} {f : Int → Option Value} (h : Model.Inv It Old Si B w k f) {j0 : Nat} (hj0 : j0 < k) (e : It j0 = It k) : Model.Inv It Old Si B w (k + 1) f := by
  refine ⟨fun x hx => h.1 x fun j hj => hx j (by omega), fun j hj hfirst => ?_⟩
  by_cases e1 : j = k
  · subst e1; exact absurd e (hfirst j0 hj0)
  · exact h.2 j (by omega) hfirst

theorem mapTurned_cell {w w' : World} {b : Nat} (h : w.mapTurned w' b) (c o : Nat) (hc : c ≠ b) : w'.cell? ⟨c, o, none⟩ = w.cell? ⟨c, o, none⟩ := by
  obtain ⟨es, clock, es', clock', hb, rfl⟩ := h
  exact World.cell?_of_block (ChangeMaps.heap_setBlock_other hb _ hc)

theorem mapTurned_size {w w' : World} {b : Nat} (h : w.mapTurned w' b) : w'.heap.size = w.heap.size := by
  obtain ⟨es, clock, es', clock', hb, rfl⟩ := h
  simp [ChangeMaps.setBlock]

/-- A new key: the entry lies in the newest block. -/
theorem Model.Inv.fresh {It : Nat → Int} {Old : Nat → Bool} {Si : Nat → Int} {B : Nat} {w w' : World} {k : Nat} {f : Int → Option Value} (h : Model.Inv It Old Si B w k f) (hB : B < w.heap.size) (hnew : ∀ j, j < k → It j ≠ It k)
    (o : Obj) (ht : (w.alloc o).mapTurned w' B) (h4 : (w.alloc o).cell? ⟨w.heap.size, 4, none⟩ = some (.bool (Old k))) (h5 : (w.alloc o).cell? ⟨w.heap.size, 5, none⟩ = some (.int .i64 (Si k))) :
    Model.Inv It Old Si B w' (k + 1) (fun x => if x = It k then some (.pointer (some ⟨w.heap.size, 0, none⟩)) else f x) := by
  have hsz : w'.heap.size = w.heap.size + 1 := by rw [mapTurned_size ht]; simp
  refine ⟨fun x hx => ?_, fun j hj hfirst => ?_⟩
  · have e1 : x ≠ It k := fun e => hx k (by omega) e.symm
    simp only [e1, if_false]
    exact h.1 x fun j hj => hx j (by omega)
  · by_cases e1 : j = k
    · subst e1
      exact ⟨w.heap.size, hB, by omega, by simp, by rw [mapTurned_cell ht _ _ (by omega)]; exact h4, by rw [mapTurned_cell ht _ _ (by omega)]; exact h5⟩
    · obtain ⟨c, c1, c2, c3, c4, c5⟩ := h.2 j (by omega) hfirst
      refine ⟨c, c1, by omega, ?_, ?_, ?_⟩
      · simp only [hnew j (by omega), if_false]; exact c3
      · rw [mapTurned_cell ht _ _ (by omega), World.cell?_of_block (Below.heap_alloc w o c c2)]; exact c4
      · rw [mapTurned_cell ht _ _ (by omega), World.cell?_of_block (Below.heap_alloc w o c c2)]; exact c5

set_option maxRecDepth 100000 in
set_option maxHeartbeats 1000000 in
theorem model_walk (n ci bi oi nf cf bf off ns cs bs offs : Nat) (ai af asx : Option Addr) (It : Nat → Int) (Fl : Nat → Bool) (Si : Nat → Int) (pick raw : Int) (w : World)
    (hi : RowIs Yba.prog 42 w ai n ci bi oi (fun k => .int .i8 (It k))) (hf : RowIs Yba.prog 43 w af nf cf bf off (fun k => .bool (Fl k))) (hs : RowIs Yba.prog 37 w asx ns cs bs offs (fun k => .int .i64 (Si k)))
    (hwi : ∀ k, (Lit.int .i8 (It k)).wf = true) (hwr : (Lit.int .i8 raw).wf = true) (hp : 0 ≤ pick ∧ pick ≤ 255) (hn : n ≤ 1024) (hnf : nf ≤ maxLen) (hns : ns ≤ maxLen) :
    Calls Yba.prog 5 #[.slice ai n ci, .slice af nf cf, .slice asx ns cs, .int .u8 pick, .int .i8 raw] w fun e w' => e = .returned (.bool true) ∧ Below w.heap.size w w' := by
  obtain ⟨hia, hic, hio⟩ := hi
  obtain ⟨hfa, hfc, hfo⟩ := hf
  obtain ⟨hsa, hsc, hso⟩ := hs
  unfold maxLen at hnf hns
  have hmm : ∀ (v : Int) (wx : World), (Instr.makeMap 45 (some (.int .i64 v))).run Yba.prog wx = .ok (.map (some wx.heap.size)) (wx.alloc (.map #[] 0)) := fun v wx => by kernel_rfl
  have hd : decide ((1024 : Int) < (n : Int)) = false := by simp; omega
  go_enter Yba.func5, Yba.ntmps5
  go_wp2
  go_loopw [12] (fun i wr => ∃ k : Nat, k ≤ n ∧ i = .int .i64 k ∧ ∃ f, MapI wr Yba.prog 44 .i8 w.heap.size k f ∧ Below w.heap.size w wr ∧ Model.Inv It (fun j => decide (j < nf) && Fl j) (fun j => if j < ns then Si j else 0) w.heap.size wr k f)
    (fun i _ => n - (intOf i).toNat)
  case atStart => exact ⟨0, Nat.zero_le _, rfl, _, MapI.made _ _ _ _, (Below.refl _ _).alloc (Nat.le_refl _) _, Model.Inv.start _ _ _ _ _⟩
  case round =>
    obtain ⟨k, hk, rfl, f, hmap, hbel, hinv⟩ := hrel
    by_cases hlt : k < n
    · have hick : wr.cell? ⟨bi, oi + k, none⟩ = some (.int .i8 (It k)) := (hbel.cell (p := ⟨bi, oi + k, none⟩) (hio (by omega))).trans (hic k hlt)
      rcases first_of It (It k) k with hnew | ⟨j0, hj0, e0, hfirst⟩
      · have HN : Hid (f (It k) = none) := hinv.1 _ hnew
        have hwk := hwi k
        have hB : w.heap.size < wr.heap.size := hmap.lt
        by_cases hkf : k < nf
        · have hfck : wr.cell? ⟨bf, off + k, none⟩ = some (.bool (Fl k)) := (hbel.cell (p := ⟨bf, off + k, none⟩) (hfo (by omega))).trans (hfc k hkf)
          by_cases hks : k < ns
          · have hsck : wr.cell? ⟨bs, offs + k, none⟩ = some (.int .i64 (Si k)) := (hbel.cell (p := ⟨bs, offs + k, none⟩) (hso (by omega))).trans (hsc k hks)
            go_wp2_with (first
              | (at_lookup; refine wpList_lookup_mapI _ rfl _ _ 45 rfl 44 46 .i8 Yba.underlying44 Yba.underlying45 _ (zero46 _) w.heap.size k f rfl hmap (It k) rfl hwk (.pointer none) (by rw [HN.out]; rfl) ?_)
              | (at_mapUpdate; refine wpList_update_mapI _ rfl _ _ _ 45 rfl 44 46 .i8 Yba.underlying44 Yba.underlying45 w.heap.size k f rfl (hmap.alloc _) (by unfold maxLen; omega) (It k) rfl hwk _ rfl ?_; intro w1 hmap1 hturn1))
            go_roundw
            case rel => exact ⟨k + 1, by omega, by go_num, _, hmap1, (hbel.alloc (by omega) _).trans ⟨hturn1.grown.os, hturn1.grown.tape, hturn1.grown.output, hturn1.grown.size, fun i hi => hturn1.grown.block i (by simp; omega) (by simp; omega)⟩, hinv.fresh hB hnew _ hturn1 (by simp [hkf]) (by simp [hks])⟩
            case measure => simp [intOf]; omega
          · go_wp2_with (first
              | (at_lookup; refine wpList_lookup_mapI _ rfl _ _ 45 rfl 44 46 .i8 Yba.underlying44 Yba.underlying45 _ (zero46 _) w.heap.size k f rfl hmap (It k) rfl hwk (.pointer none) (by rw [HN.out]; rfl) ?_)
              | (at_mapUpdate; refine wpList_update_mapI _ rfl _ _ _ 45 rfl 44 46 .i8 Yba.underlying44 Yba.underlying45 w.heap.size k f rfl (hmap.alloc _) (by unfold maxLen; omega) (It k) rfl hwk _ rfl ?_; intro w1 hmap1 hturn1))
            go_roundw
            case rel => exact ⟨k + 1, by omega, by go_num, _, hmap1, (hbel.alloc (by omega) _).trans ⟨hturn1.grown.os, hturn1.grown.tape, hturn1.grown.output, hturn1.grown.size, fun i hi => hturn1.grown.block i (by simp; omega) (by simp; omega)⟩, hinv.fresh hB hnew _ hturn1 (by simp [hkf]) (by simp [hks])⟩
            case measure => simp [intOf]; omega
        · have hdf : decide ((k : Int) < (nf : Int)) = false := by simp; omega
          by_cases hks : k < ns
          · have hsck : wr.cell? ⟨bs, offs + k, none⟩ = some (.int .i64 (Si k)) := (hbel.cell (p := ⟨bs, offs + k, none⟩) (hso (by omega))).trans (hsc k hks)
            go_wp2_with (first
              | (at_lookup; refine wpList_lookup_mapI _ rfl _ _ 45 rfl 44 46 .i8 Yba.underlying44 Yba.underlying45 _ (zero46 _) w.heap.size k f rfl hmap (It k) rfl hwk (.pointer none) (by rw [HN.out]; rfl) ?_)
              | (at_mapUpdate; refine wpList_update_mapI _ rfl _ _ _ 45 rfl 44 46 .i8 Yba.underlying44 Yba.underlying45 w.heap.size k f rfl (hmap.alloc _) (by unfold maxLen; omega) (It k) rfl hwk _ rfl ?_; intro w1 hmap1 hturn1))
            go_roundw
            case rel => exact ⟨k + 1, by omega, by go_num, _, hmap1, (hbel.alloc (by omega) _).trans ⟨hturn1.grown.os, hturn1.grown.tape, hturn1.grown.output, hturn1.grown.size, fun i hi => hturn1.grown.block i (by simp; omega) (by simp; omega)⟩, hinv.fresh hB hnew _ hturn1 (by simp [hkf]) (by simp [hks])⟩
            case measure => simp [intOf]; omega
          · go_wp2_with (first
              | (at_lookup; refine wpList_lookup_mapI _ rfl _ _ 45 rfl 44 46 .i8 Yba.underlying44 Yba.underlying45 _ (zero46 _) w.heap.size k f rfl hmap (It k) rfl hwk (.pointer none) (by rw [HN.out]; rfl) ?_)
              | (at_mapUpdate; refine wpList_update_mapI _ rfl _ _ _ 45 rfl 44 46 .i8 Yba.underlying44 Yba.underlying45 w.heap.size k f rfl (hmap.alloc _) (by unfold maxLen; omega) (It k) rfl hwk _ rfl ?_; intro w1 hmap1 hturn1))
            go_roundw
            case rel => exact ⟨k + 1, by omega, by go_num, _, hmap1, (hbel.alloc (by omega) _).trans ⟨hturn1.grown.os, hturn1.grown.tape, hturn1.grown.output, hturn1.grown.size, fun i hi => hturn1.grown.block i (by simp; omega) (by simp; omega)⟩, hinv.fresh hB hnew _ hturn1 (by simp [hkf]) (by simp [hks])⟩
            case measure => simp [intOf]; omega
      · obtain ⟨c, c1, c2, c3, c4, c5⟩ := hinv.2 j0 hj0 hfirst
        rw [e0] at c3
        have HC : Hid (f (It k) = some (.pointer (some ⟨c, 0, none⟩))) := c3
        have HE : Hid (It j0 = It k) := e0
        clear c3 e0 hfirst c4 c5 c1 c2
        have hwk := hwi k
        go_wp2_with (first | (at_lookup; refine wpList_lookup_mapI _ rfl _ _ 45 rfl 44 46 .i8 Yba.underlying44 Yba.underlying45 _ (zero46 _) w.heap.size k f rfl hmap (It k) rfl hwk (.pointer (some ⟨c, 0, none⟩)) (by rw [HC.out]; rfl) ?_))
        go_roundw
        case rel => exact ⟨k + 1, by omega, by go_num, f, hmap.mono (by omega), hbel, hinv.seen hj0 HE.out⟩
        case measure => simp [intOf]; omega
    · have hkn : k = n := by omega
      subst hkn
      clear hlt hk
      have hB : w.heap.size < wr.heap.size := hmap.lt
      by_cases hn1 : 0 < k
      · have hn2 : (0 : Int) < (k : Int) := by omega
        by_cases hev : pick % 2 = 0
        · have hq0 : 0 ≤ pick / 2 % (k : Int) := Int.emod_nonneg _ (by omega)
          have hq1 : pick / 2 % (k : Int) < (k : Int) := Int.emod_lt_of_pos _ (by omega)
          have hq2 : (pick / 2 % (k : Int)).toNat < k := by omega
          have hwx := hwi (pick / 2 % (k : Int)).toNat
          have hicq : wr.cell? ⟨bi, oi + (pick / 2 % (k : Int)).toNat, none⟩ = some (.int .i8 (It (pick / 2 % (k : Int)).toNat)) := (hbel.cell (p := ⟨bi, oi + (pick / 2 % (k : Int)).toNat, none⟩) (hio hn1)).trans (hic _ hq2)
          have hbi0 : bi < wr.heap.size := Nat.lt_trans (hio hn1) hB
          go_wp2
          go_loop [18, 19, 20, 21] (fun a b c i => ∃ j : Nat, j ≤ k ∧ i = .int .i64 j ∧ a = .bool false ∧ b = .bool false ∧ c = .int .i64 0 ∧ Hid (∀ l, l < j → It l ≠ It (pick / 2 % (k : Int)).toNat))
            (fun _ _ _ i => k - (intOf i).toNat)
          case atStart => exact ⟨0, Nat.zero_le _, rfl, rfl, rfl, rfl, fun l hl => absurd hl (Nat.not_lt_zero l)⟩
          case round =>
            obtain ⟨j, hj, rfl, rfl, rfl, rfl, hno⟩ := hrel
            by_cases hlt : j < k
            · have hicj : wr.cell? ⟨bi, oi + j, none⟩ = some (.int .i8 (It j)) := (hbel.cell (p := ⟨bi, oi + j, none⟩) (hio (by omega))).trans (hic j hlt)
              have hbi : bi < wr.heap.size := Nat.lt_trans (hio (by omega)) hB
              by_cases hx : It j = It (pick / 2 % (k : Int)).toNat
              · have hxb : (It j == It (pick / 2 % (k : Int)).toNat) = true := by simpa using hx
                have hfirst : ∀ i, i < j → It i ≠ It j := fun i hi => by rw [hx]; exact hno.out i hi
                obtain ⟨c, c1, c2, c3, c4, c5⟩ := hinv.2 j hlt hfirst
                rw [hx] at c3
                have HC : Hid (f (It (pick / 2 % (k : Int)).toNat) = some (.pointer (some ⟨c, 0, none⟩))) := c3
                clear c3 hx hfirst hno
                have c4' : ∀ o, (wr.alloc o).cell? ⟨c, 4, none⟩ = some (.bool (decide (j < nf) && Fl j)) := fun o => (World.cell?_of_block (a := ⟨c, 4, none⟩) (Below.heap_alloc wr o c c2)).trans c4
                have c5' : ∀ o, (wr.alloc o).cell? ⟨c, 5, none⟩ = some (.int .i64 (if j < ns then Si j else 0)) := fun o => (World.cell?_of_block (a := ⟨c, 5, none⟩) (Below.heap_alloc wr o c c2)).trans c5
                clear c4 c5
                by_cases hjf : j < nf
                · have hfcj : wr.cell? ⟨bf, off + j, none⟩ = some (.bool (Fl j)) := (hbel.cell (p := ⟨bf, off + j, none⟩) (hfo (by omega))).trans (hfc j hjf)
                  have hbf : bf < wr.heap.size := Nat.lt_trans (hfo (by omega)) hB
                  obtain ⟨b, hb⟩ : ∃ b, Fl j = b := ⟨_, rfl⟩
                  rw [hb] at hfcj
                  simp only [hjf, hb, decide_true, Bool.true_and] at c4'
                  clear hb
                  by_cases hjs : j < ns
                  · have hscj : wr.cell? ⟨bs, offs + j, none⟩ = some (.int .i64 (Si j)) := (hbel.cell (p := ⟨bs, offs + j, none⟩) (hso (by omega))).trans (hsc j hjs)
                    have hbs : bs < wr.heap.size := Nat.lt_trans (hso (by omega)) hB
                    simp only [hjs, if_true] at c5'
                    cases b
                    · go_wp2_with (first
                        | (go_at_call 11; refine (stale8_some wr.heap.size c (It (pick / 2 % (k : Int)).toNat) false (Si j) w.heap.size k f _ (by simp) (hmap.alloc _) hwx HC.out (c4' _) (c5' _)).mono ?_; rintro e w' ⟨rfl, rfl⟩)
                        | (at_lookup; refine wpList_lookup_mapI _ rfl _ _ 45 rfl 44 46 .i8 Yba.underlying44 Yba.underlying45 _ (zero46 _) w.heap.size k f rfl (hmap.alloc _) (It (pick / 2 % (k : Int)).toNat) rfl hwx (.pointer (some ⟨c, 0, none⟩)) (by rw [HC.out]; rfl) ?_))
                      go_ret
                      exact ⟨rfl, hbel.alloc (by omega) _⟩
                    · go_wp2_with (first
                        | (go_at_call 11; refine (stale8_some wr.heap.size c (It (pick / 2 % (k : Int)).toNat) true (Si j) w.heap.size k f _ (by simp) (hmap.alloc _) hwx HC.out (c4' _) (c5' _)).mono ?_; rintro e w' ⟨rfl, rfl⟩)
                        | (at_lookup; refine wpList_lookup_mapI _ rfl _ _ 45 rfl 44 46 .i8 Yba.underlying44 Yba.underlying45 _ (zero46 _) w.heap.size k f rfl (hmap.alloc _) (It (pick / 2 % (k : Int)).toNat) rfl hwx (.pointer (some ⟨c, 0, none⟩)) (by rw [HC.out]; rfl) ?_))
                      go_ret
                      exact ⟨rfl, hbel.alloc (by omega) _⟩
                  · simp only [hjs, if_false] at c5'
                    cases b
                    · go_wp2_with (first
                        | (go_at_call 11; refine (stale8_some wr.heap.size c (It (pick / 2 % (k : Int)).toNat) false (0) w.heap.size k f _ (by simp) (hmap.alloc _) hwx HC.out (c4' _) (c5' _)).mono ?_; rintro e w' ⟨rfl, rfl⟩)
                        | (at_lookup; refine wpList_lookup_mapI _ rfl _ _ 45 rfl 44 46 .i8 Yba.underlying44 Yba.underlying45 _ (zero46 _) w.heap.size k f rfl (hmap.alloc _) (It (pick / 2 % (k : Int)).toNat) rfl hwx (.pointer (some ⟨c, 0, none⟩)) (by rw [HC.out]; rfl) ?_))
                      go_ret
                      exact ⟨rfl, hbel.alloc (by omega) _⟩
                    · go_wp2_with (first
                        | (go_at_call 11; refine (stale8_some wr.heap.size c (It (pick / 2 % (k : Int)).toNat) true (0) w.heap.size k f _ (by simp) (hmap.alloc _) hwx HC.out (c4' _) (c5' _)).mono ?_; rintro e w' ⟨rfl, rfl⟩)
                        | (at_lookup; refine wpList_lookup_mapI _ rfl _ _ 45 rfl 44 46 .i8 Yba.underlying44 Yba.underlying45 _ (zero46 _) w.heap.size k f rfl (hmap.alloc _) (It (pick / 2 % (k : Int)).toNat) rfl hwx (.pointer (some ⟨c, 0, none⟩)) (by rw [HC.out]; rfl) ?_))
                      go_ret
                      exact ⟨rfl, hbel.alloc (by omega) _⟩
                · have hdf : decide ((j : Int) < (nf : Int)) = false := by simp; omega
                  simp only [hjf, decide_false, Bool.false_and] at c4'
                  by_cases hjs : j < ns
                  · have hscj : wr.cell? ⟨bs, offs + j, none⟩ = some (.int .i64 (Si j)) := (hbel.cell (p := ⟨bs, offs + j, none⟩) (hso (by omega))).trans (hsc j hjs)
                    have hbs : bs < wr.heap.size := Nat.lt_trans (hso (by omega)) hB
                    simp only [hjs, if_true] at c5'
                    go_wp2_with (first
                      | (go_at_call 11; refine (stale8_some wr.heap.size c (It (pick / 2 % (k : Int)).toNat) false (Si j) w.heap.size k f _ (by simp) (hmap.alloc _) hwx HC.out (c4' _) (c5' _)).mono ?_; rintro e w' ⟨rfl, rfl⟩)
                      | (at_lookup; refine wpList_lookup_mapI _ rfl _ _ 45 rfl 44 46 .i8 Yba.underlying44 Yba.underlying45 _ (zero46 _) w.heap.size k f rfl (hmap.alloc _) (It (pick / 2 % (k : Int)).toNat) rfl hwx (.pointer (some ⟨c, 0, none⟩)) (by rw [HC.out]; rfl) ?_))
                    go_ret
                    exact ⟨rfl, hbel.alloc (by omega) _⟩
                  · simp only [hjs, if_false] at c5'
                    go_wp2_with (first
                      | (go_at_call 11; refine (stale8_some wr.heap.size c (It (pick / 2 % (k : Int)).toNat) false (0) w.heap.size k f _ (by simp) (hmap.alloc _) hwx HC.out (c4' _) (c5' _)).mono ?_; rintro e w' ⟨rfl, rfl⟩)
                      | (at_lookup; refine wpList_lookup_mapI _ rfl _ _ 45 rfl 44 46 .i8 Yba.underlying44 Yba.underlying45 _ (zero46 _) w.heap.size k f rfl (hmap.alloc _) (It (pick / 2 % (k : Int)).toNat) rfl hwx (.pointer (some ⟨c, 0, none⟩)) (by rw [HC.out]; rfl) ?_))
                    go_ret
                    exact ⟨rfl, hbel.alloc (by omega) _⟩
              · have hxb : (It j == It (pick / 2 % (k : Int)).toNat) = false := by simpa using hx
                go_wp2
                go_round
                case rel => exact ⟨j + 1, by omega, by go_num, rfl, rfl, rfl, fun l hl => by
                    by_cases e : l = j
                    · subst e; exact hx
                    · exact hno.out l (by omega)⟩
                case measure => simp [intOf]; omega
            · have hjk : k = j := by omega
              subst hjk
              have HC : Hid (f (It (pick / 2 % (k : Int)).toNat) = none) := hinv.1 _ hno.out
              clear hno
              go_wp2_with (first
                | (go_at_call 11; refine (stale8_none wr.heap.size (It (pick / 2 % (k : Int)).toNat) w.heap.size k f _ (by simp) (hmap.alloc _) hwx HC.out).mono ?_; rintro e w' ⟨rfl, rfl⟩)
                | (at_lookup; refine wpList_lookup_mapI _ rfl _ _ 45 rfl 44 46 .i8 Yba.underlying44 Yba.underlying45 _ (zero46 _) w.heap.size k f rfl (hmap.alloc _) (It (pick / 2 % (k : Int)).toNat) rfl hwx (.pointer none) (by rw [HC.out]; rfl) ?_))
              go_ret
              exact ⟨rfl, hbel.alloc (by omega) _⟩
        · have hpb : (pick % 2 == 0) = false := by simpa using hev
          clear hev
          go_wp2
          go_loop [18, 19, 20, 21] (fun a b c i => ∃ j : Nat, j ≤ k ∧ i = .int .i64 j ∧ a = .bool false ∧ b = .bool false ∧ c = .int .i64 0 ∧ Hid (∀ l, l < j → It l ≠ raw))
            (fun _ _ _ i => k - (intOf i).toNat)
          case atStart => exact ⟨0, Nat.zero_le _, rfl, rfl, rfl, rfl, fun l hl => absurd hl (Nat.not_lt_zero l)⟩
          case round =>
            obtain ⟨j, hj, rfl, rfl, rfl, rfl, hno⟩ := hrel
            by_cases hlt : j < k
            · have hicj : wr.cell? ⟨bi, oi + j, none⟩ = some (.int .i8 (It j)) := (hbel.cell (p := ⟨bi, oi + j, none⟩) (hio (by omega))).trans (hic j hlt)
              have hbi : bi < wr.heap.size := Nat.lt_trans (hio (by omega)) hB
              by_cases hx : It j = raw
              · have hxb : (It j == raw) = true := by simpa using hx
                have hfirst : ∀ i, i < j → It i ≠ It j := fun i hi => by rw [hx]; exact hno.out i hi
                obtain ⟨c, c1, c2, c3, c4, c5⟩ := hinv.2 j hlt hfirst
                rw [hx] at c3
                have HC : Hid (f (raw) = some (.pointer (some ⟨c, 0, none⟩))) := c3
                clear c3 hx hfirst hno
                have c4' : ∀ o, (wr.alloc o).cell? ⟨c, 4, none⟩ = some (.bool (decide (j < nf) && Fl j)) := fun o => (World.cell?_of_block (a := ⟨c, 4, none⟩) (Below.heap_alloc wr o c c2)).trans c4
                have c5' : ∀ o, (wr.alloc o).cell? ⟨c, 5, none⟩ = some (.int .i64 (if j < ns then Si j else 0)) := fun o => (World.cell?_of_block (a := ⟨c, 5, none⟩) (Below.heap_alloc wr o c c2)).trans c5
                clear c4 c5
                by_cases hjf : j < nf
                · have hfcj : wr.cell? ⟨bf, off + j, none⟩ = some (.bool (Fl j)) := (hbel.cell (p := ⟨bf, off + j, none⟩) (hfo (by omega))).trans (hfc j hjf)
                  have hbf : bf < wr.heap.size := Nat.lt_trans (hfo (by omega)) hB
                  obtain ⟨b, hb⟩ : ∃ b, Fl j = b := ⟨_, rfl⟩
                  rw [hb] at hfcj
                  simp only [hjf, hb, decide_true, Bool.true_and] at c4'
                  clear hb
                  by_cases hjs : j < ns
                  · have hscj : wr.cell? ⟨bs, offs + j, none⟩ = some (.int .i64 (Si j)) := (hbel.cell (p := ⟨bs, offs + j, none⟩) (hso (by omega))).trans (hsc j hjs)
                    have hbs : bs < wr.heap.size := Nat.lt_trans (hso (by omega)) hB
                    simp only [hjs, if_true] at c5'
                    cases b
                    · go_wp2_with (first
                        | (go_at_call 11; refine (stale8_some wr.heap.size c (raw) false (Si j) w.heap.size k f _ (by simp) (hmap.alloc _) hwr HC.out (c4' _) (c5' _)).mono ?_; rintro e w' ⟨rfl, rfl⟩)
                        | (at_lookup; refine wpList_lookup_mapI _ rfl _ _ 45 rfl 44 46 .i8 Yba.underlying44 Yba.underlying45 _ (zero46 _) w.heap.size k f rfl (hmap.alloc _) (raw) rfl hwr (.pointer (some ⟨c, 0, none⟩)) (by rw [HC.out]; rfl) ?_))
                      go_ret
                      exact ⟨rfl, hbel.alloc (by omega) _⟩
                    · go_wp2_with (first
                        | (go_at_call 11; refine (stale8_some wr.heap.size c (raw) true (Si j) w.heap.size k f _ (by simp) (hmap.alloc _) hwr HC.out (c4' _) (c5' _)).mono ?_; rintro e w' ⟨rfl, rfl⟩)
                        | (at_lookup; refine wpList_lookup_mapI _ rfl _ _ 45 rfl 44 46 .i8 Yba.underlying44 Yba.underlying45 _ (zero46 _) w.heap.size k f rfl (hmap.alloc _) (raw) rfl hwr (.pointer (some ⟨c, 0, none⟩)) (by rw [HC.out]; rfl) ?_))
                      go_ret
                      exact ⟨rfl, hbel.alloc (by omega) _⟩
                  · simp only [hjs, if_false] at c5'
                    cases b
                    · go_wp2_with (first
                        | (go_at_call 11; refine (stale8_some wr.heap.size c (raw) false (0) w.heap.size k f _ (by simp) (hmap.alloc _) hwr HC.out (c4' _) (c5' _)).mono ?_; rintro e w' ⟨rfl, rfl⟩)
                        | (at_lookup; refine wpList_lookup_mapI _ rfl _ _ 45 rfl 44 46 .i8 Yba.underlying44 Yba.underlying45 _ (zero46 _) w.heap.size k f rfl (hmap.alloc _) (raw) rfl hwr (.pointer (some ⟨c, 0, none⟩)) (by rw [HC.out]; rfl) ?_))
                      go_ret
                      exact ⟨rfl, hbel.alloc (by omega) _⟩
                    · go_wp2_with (first
                        | (go_at_call 11; refine (stale8_some wr.heap.size c (raw) true (0) w.heap.size k f _ (by simp) (hmap.alloc _) hwr HC.out (c4' _) (c5' _)).mono ?_; rintro e w' ⟨rfl, rfl⟩)
                        | (at_lookup; refine wpList_lookup_mapI _ rfl _ _ 45 rfl 44 46 .i8 Yba.underlying44 Yba.underlying45 _ (zero46 _) w.heap.size k f rfl (hmap.alloc _) (raw) rfl hwr (.pointer (some ⟨c, 0, none⟩)) (by rw [HC.out]; rfl) ?_))
                      go_ret
                      exact ⟨rfl, hbel.alloc (by omega) _⟩
                · have hdf : decide ((j : Int) < (nf : Int)) = false := by simp; omega
                  simp only [hjf, decide_false, Bool.false_and] at c4'
                  by_cases hjs : j < ns
                  · have hscj : wr.cell? ⟨bs, offs + j, none⟩ = some (.int .i64 (Si j)) := (hbel.cell (p := ⟨bs, offs + j, none⟩) (hso (by omega))).trans (hsc j hjs)
                    have hbs : bs < wr.heap.size := Nat.lt_trans (hso (by omega)) hB
                    simp only [hjs, if_true] at c5'
                    go_wp2_with (first
                      | (go_at_call 11; refine (stale8_some wr.heap.size c (raw) false (Si j) w.heap.size k f _ (by simp) (hmap.alloc _) hwr HC.out (c4' _) (c5' _)).mono ?_; rintro e w' ⟨rfl, rfl⟩)
                      | (at_lookup; refine wpList_lookup_mapI _ rfl _ _ 45 rfl 44 46 .i8 Yba.underlying44 Yba.underlying45 _ (zero46 _) w.heap.size k f rfl (hmap.alloc _) (raw) rfl hwr (.pointer (some ⟨c, 0, none⟩)) (by rw [HC.out]; rfl) ?_))
                    go_ret
                    exact ⟨rfl, hbel.alloc (by omega) _⟩
                  · simp only [hjs, if_false] at c5'
                    go_wp2_with (first
                      | (go_at_call 11; refine (stale8_some wr.heap.size c (raw) false (0) w.heap.size k f _ (by simp) (hmap.alloc _) hwr HC.out (c4' _) (c5' _)).mono ?_; rintro e w' ⟨rfl, rfl⟩)
                      | (at_lookup; refine wpList_lookup_mapI _ rfl _ _ 45 rfl 44 46 .i8 Yba.underlying44 Yba.underlying45 _ (zero46 _) w.heap.size k f rfl (hmap.alloc _) (raw) rfl hwr (.pointer (some ⟨c, 0, none⟩)) (by rw [HC.out]; rfl) ?_))
                    go_ret
                    exact ⟨rfl, hbel.alloc (by omega) _⟩
              · have hxb : (It j == raw) = false := by simpa using hx
                go_wp2
                go_round
                case rel => exact ⟨j + 1, by omega, by go_num, rfl, rfl, rfl, fun l hl => by
                    by_cases e : l = j
                    · subst e; exact hx
                    · exact hno.out l (by omega)⟩
                case measure => simp [intOf]; omega
            · have hjk : k = j := by omega
              subst hjk
              have HC : Hid (f (raw) = none) := hinv.1 _ hno.out
              clear hno
              go_wp2_with (first
                | (go_at_call 11; refine (stale8_none wr.heap.size (raw) w.heap.size k f _ (by simp) (hmap.alloc _) hwr HC.out).mono ?_; rintro e w' ⟨rfl, rfl⟩)
                | (at_lookup; refine wpList_lookup_mapI _ rfl _ _ 45 rfl 44 46 .i8 Yba.underlying44 Yba.underlying45 _ (zero46 _) w.heap.size k f rfl (hmap.alloc _) (raw) rfl hwr (.pointer none) (by rw [HC.out]; rfl) ?_))
              go_ret
              exact ⟨rfl, hbel.alloc (by omega) _⟩
      · have hd0 : decide ((0 : Int) < (k : Int)) = false := by simp; omega
        go_wp2
        go_loop [18, 19, 20, 21] (fun a b c i => ∃ j : Nat, j ≤ k ∧ i = .int .i64 j ∧ a = .bool false ∧ b = .bool false ∧ c = .int .i64 0 ∧ Hid (∀ l, l < j → It l ≠ raw))
          (fun _ _ _ i => k - (intOf i).toNat)
        case atStart => exact ⟨0, Nat.zero_le _, rfl, rfl, rfl, rfl, fun l hl => absurd hl (Nat.not_lt_zero l)⟩
        case round =>
          obtain ⟨j, hj, rfl, rfl, rfl, rfl, hno⟩ := hrel
          by_cases hlt : j < k
          · exfalso; omega
          · have hjk : k = j := by omega
            subst hjk
            have HC : Hid (f (raw) = none) := hinv.1 _ hno.out
            clear hno
            go_wp2_with (first
              | (go_at_call 11; refine (stale8_none wr.heap.size (raw) w.heap.size k f _ (by simp) (hmap.alloc _) hwr HC.out).mono ?_; rintro e w' ⟨rfl, rfl⟩)
              | (at_lookup; refine wpList_lookup_mapI _ rfl _ _ 45 rfl 44 46 .i8 Yba.underlying44 Yba.underlying45 _ (zero46 _) w.heap.size k f rfl (hmap.alloc _) (raw) rfl hwr (.pointer none) (by rw [HC.out]; rfl) ?_))
            go_ret
            exact ⟨rfl, hbel.alloc (by omega) _⟩
end Go.Proofs.Ybulkbzcc
