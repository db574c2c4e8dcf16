import Derived.Test.YbulkbzccRows
import Derived.Test.YbulkbzccMapI
namespace Go.Proofs.Ybulkbzcc
open Go.RowKit Go.Maps

theorem zero46 (w : World) : (zeroValue 46).run Yba.prog w = .ok (.pointer none) w := by kernel_rfl

theorem stale8_none (cb : Nat) (x : Int) (B n : Nat) (f : Int → Option Value) (w : World) (hc : w.cell? ⟨cb, 2, none⟩ = some (.map (some B))) (hm : MapI w Yba.prog 44 .i8 B n f) (hw : (Lit.int .i8 x).wf = true) (hf : f x = none) :
    Calls Yba.prog 11 #[.pointer (some ⟨cb, 0, none⟩), .int .i8 x] w fun e w' => e = .returned (.tuple #[.int .i64 0, .bool false]) ∧ w' = w := by
  have H : Hid (f x = none) := hf
  clear hf
  go_enter Yba.func11, Yba.ntmps11
  go_wp2_with (first | (at_lookup; refine wpList_lookup_mapI _ rfl _ _ 45 rfl 44 46 .i8 Yba.underlying44 Yba.underlying45 _ (zero46 _) B n f rfl hm x rfl hw (.pointer none) (by rw [H.out]; rfl) ?_))
  go_ret2
  exact ⟨rfl, rfl⟩

theorem stale8_some (cb c : Nat) (x : Int) (old : Bool) (s : Int) (B n : Nat) (f : Int → Option Value) (w : World) (hc : w.cell? ⟨cb, 2, none⟩ = some (.map (some B))) (hm : MapI w Yba.prog 44 .i8 B n f) (hw : (Lit.int .i8 x).wf = true) (hf : f x = some (.pointer (some ⟨c, 0, none⟩)))
    (h4 : w.cell? ⟨c, 4, none⟩ = some (.bool old)) (h5 : w.cell? ⟨c, 5, none⟩ = some (.int .i64 s)) :
    Calls Yba.prog 11 #[.pointer (some ⟨cb, 0, none⟩), .int .i8 x] w fun e w' => e = .returned (.tuple #[.int .i64 (if old then s else 0), .bool old]) ∧ w' = w := by
  have H : Hid (f x = some (.pointer (some ⟨c, 0, none⟩))) := hf
  clear hf
  cases old
  all_goals
    go_enter Yba.func11, Yba.ntmps11
    go_wp2_with (first | (at_lookup; refine wpList_lookup_mapI _ rfl _ _ 45 rfl 44 46 .i8 Yba.underlying44 Yba.underlying45 _ (zero46 _) B n f rfl hm x rfl hw (.pointer (some ⟨c, 0, none⟩)) (by rw [H.out]; rfl) ?_))
    go_ret2
    exact ⟨rfl, rfl⟩
end Go.Proofs.Ybulkbzcc
