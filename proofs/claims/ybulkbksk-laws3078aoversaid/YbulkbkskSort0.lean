/-
  cmp.Less at int32. Turned by a script from the kit's walks at int (tree/Derived/Sort) to this program's instances at int32.
-/
import Derived.Test.YbulkbkskRows
import Derived.Lib.Walk
import Derived.Sort.Row
import Derived.WalkKit
namespace Go.Proofs.Ybulkbksk
open Go.RowKit Go.Sort
set_option linter.unusedVariables false

set_option maxHeartbeats 1000000 in
theorem S32.cmp_isNaN_int (x : Int) (w : World) : Calls Yba.prog 52 #[.int .i32 x] w fun e w' => e = .returned (.bool false) ∧ w' = w := by
  go_enter Yba.func52, Yba.ntmps52
  go_wp2
  go_ret
  exact ⟨by simp, rfl⟩

set_option maxHeartbeats 1000000 in
/-- cmp.Less[int]: IT RETURNS 'Sort.ltInt x y'; the world is as it was. -/
theorem S32.cmp_Less_int (x y : Int) (w : World) : Calls Yba.prog 38 #[.int .i32 x, .int .i32 y] w fun e w' => e = .returned (.bool (Sort.ltInt x y)) ∧ w' = w := by
  go_enter Yba.func38, Yba.ntmps38
  go_wp2_with (go_at_call 52; refine (S32.cmp_isNaN_int _ _).mono ?_; rintro e w' ⟨rfl, rfl⟩)
  go_ret
  exact ⟨rfl, rfl⟩

abbrev enc32 : Int → Value := fun x => Value.int .i32 x
end Go.Proofs.Ybulkbksk
