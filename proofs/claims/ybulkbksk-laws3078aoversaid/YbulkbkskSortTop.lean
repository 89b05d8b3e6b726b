/-
  slices.Sort at []int32. Turned by a script from the kit's walks at int (tree/Derived/Sort) to this program's instances at int32.
-/
import Derived.Test.YbulkbkskSortA
import Derived.Test.YbulkbkskSortA6
import Derived.Test.YbulkbkskSortC
import Derived.Test.YbulkbkskSortC4
import Derived.Test.YbulkbkskSort7
import Derived.Test.YbulkbkskSort11
import Derived.Test.YbulkbkskSort13
import Derived.Sort.AssemblyPlain
import Derived.Sort.WalkA14
namespace Go.Proofs.Ybulkbksk
open Go.RowKit Go.Sort
set_option linter.unusedVariables false

/-- insertionSortOrdered[int] of no element: 'i := 1; 1 < 0' is false. -/
theorem S32.insertionSort_int_nil (p : Option Addr) (cap : Nat) (w : World) :
    Calls Yba.prog 32 #[.slice p 0 cap, .int .i64 0, .int .i64 0] w fun e w' => e = .returned (.tuple #[]) ∧ w' = w := by
  go_enter Yba.func32, Yba.ntmps32
  go_wp2
  refine wp_loop_rounds 1 ?_
  rw [rounds_succ]
  go_wp2
  go_end0
  exact ⟨rfl, rfl⟩

set_option maxRecDepth 100000 in
/-- pdqsortOrdered[int] of no element: 'length <= maxInsertion' at once. -/
theorem S32.pdqsort_int_nil (p : Option Addr) (cap : Nat) (w : World) :
    Calls Yba.prog 27 #[.slice p 0 cap, .int .i64 0, .int .i64 0, .int .i64 0] w fun e w' => e = .returned (.tuple #[]) ∧ w' = w := by
  go_enter Yba.func27, Yba.ntmps27
  go_wp2
  refine wp_loop_rounds 1 ?_
  rw [rounds_succ]
  go_wp2_with (first | (go_at_call 32; refine (S32.insertionSort_int_nil p cap _).mono ?_; rintro e w' ⟨rfl, rfl⟩))
  refine bodyPost_ret (results_none rfl _ _ _) rfl ?_      -- an explicit 'return' in a function without results
  exact ⟨rfl, rfl⟩

set_option maxRecDepth 100000 in
/-- slices.Sort of no element. -/
theorem S32.Sort_int_nil (p : Option Addr) (cap : Nat) (w : World) :
    Calls Yba.prog 20 #[.slice p 0 cap] w fun e w' => e = .returned (.tuple #[]) ∧ w' = w := by
  have hLen : ∀ w, Calls Yba.prog 28 #[.int .u64 0] w fun e w' => e = .returned (.int .i64 0) ∧ w' = w := fun w => S32.bits_Len 0 w (by omega) (by omega)
  go_enter Yba.func20, Yba.ntmps20
  go_wp2_with (first
    | (go_at_call 28; refine (hLen _).mono ?_; rintro e w' ⟨rfl, rfl⟩)
    | (go_at_call 27; refine (S32.pdqsort_int_nil p cap _).mono ?_; rintro e w' ⟨rfl, rfl⟩))
  go_end0
  exact ⟨rfl, rfl⟩

/-- WALK 13's CONTRACT, as the plan writes it, at int. -/
def pdqWalk_32 : Prop := ∀ (blk off cap a b limit : Nat) (d : Array Int) (w : World), Holds (Value.int .i32) w blk off d → blk < w.heap.size → a ≤ b → b ≤ d.size → d.size < 4611686018427387904 → limit < 4611686018427387904 → Below ltInt a b d →
  Calls Yba.prog 27 #[.slice (some ⟨blk, off, none⟩) d.size cap, .int .i64 a, .int .i64 b, .int .i64 limit] w fun e w' =>
    e = .returned (.tuple #[]) ∧ ∃ n os, w' = grow (putRow (Value.int .i32) (Sort.ahead w n) blk off (Sort.pdq ltInt d a b limit true true)) os

set_option maxRecDepth 100000 in
/-- WALK 14 OF THE PLAN, at int: slices.Sort's own body. -/
theorem S32.Sort_int (hpdq : pdqWalk_32) (blk off cap : Nat) (d : Array Int) (w : World) (hH : Holds (Value.int .i32) w blk off d) (hblk : blk < w.heap.size) (hsz : d.size < 4611686018427387904) :
    Calls Yba.prog 20 #[.slice (some ⟨blk, off, none⟩) d.size cap] w fun e w' => e = .returned (.tuple #[]) ∧ ∃ n os, w' = grow (putRow (Value.int .i32) (Sort.ahead w n) blk off (Sort.sort ltInt d)) os := by
  have HH : Hid (Holds (Value.int .i32) w blk off d) := hH
  clear hH
  have hLen : ∀ w, Calls Yba.prog 28 #[.int .u64 (d.size : Int)] w fun e w' => e = .returned (.int .i64 (bitsLen d.size : Nat)) ∧ w' = w := fun w => by
    have h := S32.bits_Len (d.size : Int) w (by omega) (by omega)
    rwa [Int.toNat_natCast, bitLen_eq _ (by omega)] at h
  have hk : bitsLen d.size ≤ 62 := (bitsLen_le_iff d.size 62).2 (by omega)
  go_enter Yba.func20, Yba.ntmps20
  go_wp2_with (first
    | (go_at_call 28; refine (hLen _).mono ?_; rintro e w' ⟨rfl, rfl⟩)
    | (go_at_call 27; refine (hpdq blk off cap 0 d.size (bitsLen d.size) d _ (by exact HH.out) (by exact hblk) (Nat.zero_le _) (Nat.le_refl _) hsz (by omega) (Or.inl rfl)).mono ?_; rintro e w' ⟨rfl, n, os, rfl⟩))
  go_end0
  exact ⟨rfl, n, os, rfl⟩

theorem callees13 : Callees13 where
  ins := S32.insertionSort_int
  brk := S32.breakPatterns_int
  piv := S32.choosePivot_int
  par := S32.partialInsertionSort_int
  peq := S32.partitionEqualOrdered_int
  prt := S32.partitionOrdered_int

theorem plain13 : Plain13 where
  swo := swo_ltInt
  ins := insertionSort_holds
  par := partialInsertionSort_holds
  prt := partition_holds _
  peq := partitionEqual_holds _
  pdq := pdq_sorts _

theorem pdqWalk32 : pdqWalk_32 := fun blk off cap a b limit d w hH hb hab hbd hsz hl hB =>
  S32.pdqsort_int callees13 plain13 (b - a + 1) blk off cap a b limit d w (by omega) hH hb hab hbd hsz hl hB

theorem sort_int_eq (zs : List Int) : Sort.sort ltInt zs.toArray = (zs.mergeSort fun x y => decide (x ≤ y)).toArray := by
  rw [← sortInt zs]

/-- slices.Sort at []int. -/
theorem S32.slices_Sort_int (blk off cap : Nat) (zs : List Int) (w : World) (hH : Holds (Value.int .i32) w blk off zs.toArray) (hblk : blk < w.heap.size) (hsz : zs.length < 4611686018427387904) :
    Calls Yba.prog 20 #[.slice (some ⟨blk, off, none⟩) zs.length cap] w fun e w' =>
      e = .returned (.tuple #[]) ∧ ∃ n os, w' = grow (putRow (Value.int .i32) (Sort.ahead w n) blk off (zs.mergeSort fun x y => decide (x ≤ y)).toArray) os := by
  have h := S32.Sort_int pdqWalk32 blk off cap zs.toArray w hH hblk (by simpa using hsz)
  rw [sort_int_eq] at h
  simpa using h
end Go.Proofs.Ybulkbksk
