/-
  cmp.isNaN, cmp.Less AT int32.
  THE WALK OF THE KIT'S OWN TOY 'so' (Derived/Sort), TURNED TO THIS PROGRAM: its numbers, its element type int32.
-/
import Derived.Test.YbulkdcoiProg
import Derived.Sort.Walk0
namespace Go.Proofs.Ybulkdcoi
open Go.Sort

abbrev encJ : Int → Value := fun x => Value.int .i32 x

set_option maxHeartbeats 1000000 in
theorem Srt.cmp_isNaN_int (x : Int) (w : World) : Calls Yba.prog 59 #[.int .i32 x] w fun e w' => e = .returned (.bool false) ∧ w' = w := by
  go_enter Yba.func59, Yba.ntmps59
  go_wp2
  go_ret
  exact ⟨by simp, rfl⟩

set_option maxHeartbeats 1000000 in
theorem Srt.cmp_Less_int (x y : Int) (w : World) : Calls Yba.prog 41 #[.int .i32 x, .int .i32 y] w fun e w' => e = .returned (.bool (Sort.ltInt x y)) ∧ w' = w := by
  go_enter Yba.func41, Yba.ntmps41
  go_wp2_with (go_at_call 59; refine (Srt.cmp_isNaN_int _ _).mono ?_; rintro e w' ⟨rfl, rfl⟩)
  go_ret
  exact ⟨rfl, rfl⟩


end Go.Proofs.Ybulkdcoi
