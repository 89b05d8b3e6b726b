/-
  The key localName (a struct of two int32) as the library's maps take it.
-/
import Derived.Test.YbulkbkskRows
import Derived.Maps.RangeWalk
import Derived.DeepKeys4
import Derived.WalkKit
namespace Go.Proofs.Ybulkbksk
open Go.RowKit Go.Maps
set_option linter.unusedVariables false
theorem laid109 : laidOutB Yba.prog = true := by kernel_rfl
theorem size109 : decide (109 < Yba.prog.types.size) = true := by kernel_rfl
theorem keyLaw109 : WideMaps.KeyLaw Yba.prog 109 := deep_law_laid laid109 (m := 3) (by decide) (of_decide_eq_true size109) (by kernel_rfl) (by kernel_rfl)
theorem keyed109 : Keyed Yba.prog 109 := Keyed.of_law keyLaw109
theorem cells109 : Yba.prog.cellsOf 109 = 2 := by kernel_rfl
theorem cells21 : Yba.prog.cellsOf 21 = 1 := by kernel_rfl
theorem keyType109 : Yba.prog.keyType 109 = true := by kernel_rfl
theorem nTypes : Yba.prog.types.size = 230 := by kernel_rfl
def kv (p a : Int) : Value := .agg #[.int .i32 p, .int .i32 a]
def kl (p a : Int) : Lit := .string (keyBytes [.int .i32 p, .int .i32 a])
theorem keyLits21 (d : Nat) (p : Int) (hp : (Lit.int .i32 p).wf = true) : Yba.prog.keyLits (d + 1) 21 [.int .i32 p] = some [.int .i32 p] := by
  unfold Program.keyLits
  rw [Yba.underlying21]
  simp [hp]
theorem keyLits109 (d : Nat) (p a : Int) (hp : (Lit.int .i32 p).wf = true) (ha : (Lit.int .i32 a).wf = true) : Yba.prog.keyLits (d + 2) 109 [.int .i32 p, .int .i32 a] = some [.int .i32 p, .int .i32 a] := by
  unfold Program.keyLits
  rw [Yba.underlying109]
  simp [cells109, cells21, keyLits21 d p hp, keyLits21 d a ha]
theorem keyOf_kv (p a : Int) (hp : (Lit.int .i32 p).wf = true) (ha : (Lit.int .i32 a).wf = true) : keyOf Yba.prog 109 (kv p a) = some (kl p a) := by
  have h := keyLits109 229 p a hp ha
  have hf : Value.formed Yba.prog 109 (kv p a) = true := by
    unfold Value.formed kv
    simp only [Yba.underlying109, cells109]
    rfl
  have hc : (kv p a).cells.toList = [.int .i32 p, .int .i32 a] := rfl
  unfold keyOf
  rw [Yba.underlying109]
  simp only [keyType109, hf, hc, nTypes, Bool.and_self, if_true]
  rw [h]
  rfl
end Go.Proofs.Ybulkbksk
