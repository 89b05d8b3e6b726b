/-
  No cell of these rows narrows 'for every input' (looked for: loops, veiled, ifaces, maps, wideKeys, modest, calm, conditions, laid).
  DERIVED. THE GIVEN ROWS OF THIS SEAT. 5 by the template 'for every input the law returns true; each argument reads behind the call as it read before'; 0 by the template 'total and deterministic' (their statements: YbulkbkskTotals.lean).
  GIVEN WITH THE SEED: the statements are not yours to turn. If you find one false, say at which input.
  Laid BY PROGRAM, IN A SANDBOX (cutbox-rows.mjs): the forced cells as the released guide's own fill.sh prints them over the translation 17a0715345b09e58… (all of the seat's roots in one cut). By AI agents, Wed Nov 11 2026. No macro, syntax, notation, axiom, sorry.
-/
import Derived.Test.YbulkbkskChecked
import GoSem.Claim
import GoSem.ClaimJoined
import GoSem.ClaimMapViews
import Derived.JoinedTies
import Derived.KernelRfl
namespace Go.Proofs.Ybulkbksk
/- THE CELL 'sum', in the pinned program and in every row, IS THE sha256 OF THE DUMP (.gsa) THAT YbulkbkskProg.lean LOADS. Nothing in Lean hashes anything: it is a label: what it is worth is what the hold of that sum in a sandbox is worth. -/
noncomputable def Yba.pinned : Pinned := { name := "ybulkbksk", sum := "17a0715345b09e58c63f57f12b8726df34c7ead665cb68886cae665b6c265df9", checked := Yba.checked }
namespace Rows
def none {H : Type} : Left H := { results := [], args := [] }

/-- 'bindweed.LawS3078AAlone': WHATEVER THE INPUT: true; the input reads as it did. -/
def lawS3078AAloneSpec : ChangeSpec := { name := "lawS3078AAlone", fn := fun _ => fun
  | [d1, d2, d3, d4] => { results := [.lit (.bool true)], args := [d1, d2, d3, d4] }
  | _ => none }
def lawS3078AAloneRow : OpenClaim := { program := "ybulkbksk", sum := "17a0715345b09e58c63f57f12b8726df34c7ead665cb68886cae665b6c265df9", func := "example.com/bindweed/bindweed.LawS3078AAlone", spec := "lawS3078AAlone", inPlace := ["sync/atomic.LoadUint32", "(*internal/sync.Mutex).Lock", "internal/race.Disable", "sync/atomic.CompareAndSwapInt32", "internal/race.Enable", "internal/race.Acquire", "(*internal/sync.Mutex).lockSlow", "internal/sync.runtime_canSpin", "internal/sync.runtime_doSpin", "internal/sync.throw", "internal/sync.runtime_nanotime", "internal/sync.runtime_SemacquireMutex", "sync/atomic.AddInt32", "(*internal/sync.Mutex).Unlock", "internal/race.ReleaseMerge", "(*internal/sync.Mutex).unlockSlow", "internal/sync.fatal", "internal/sync.runtime_Semrelease", "sync/atomic.StoreUint32"], unfollowed := true, recurses := true, plainKeys := false, apart := false }
def LawS3078AAloneSaid : Prop := lawS3078AAloneRow.holds Yba.pinned (OpenSpec.ofChange lawS3078AAloneSpec)

/-- ITS FALSE NEIGHBOUR: 'it returns false'. Refute it at one input. -/
def lawS3078AAloneWrong : ChangeSpec := { name := "lawS3078AAlone", fn := fun _ => fun
  | [d1, d2, d3, d4] => { results := [.lit (.bool false)], args := [d1, d2, d3, d4] }
  | _ => none }
def LawS3078AAloneWrongFalsely : Prop := lawS3078AAloneRow.holds Yba.pinned (OpenSpec.ofChange lawS3078AAloneWrong)

/-- 'bindweed.LawS3078AOver': WHATEVER THE INPUT: true; the input reads as it did. -/
def lawS3078AOverSpec : ChangeSpec := { name := "lawS3078AOver", fn := fun _ => fun
  | [d1, d2, d3, d4] => { results := [.lit (.bool true)], args := [d1, d2, d3, d4] }
  | _ => none }
def lawS3078AOverRow : OpenClaim := { program := "ybulkbksk", sum := "17a0715345b09e58c63f57f12b8726df34c7ead665cb68886cae665b6c265df9", func := "example.com/bindweed/bindweed.LawS3078AOver", spec := "lawS3078AOver", inPlace := ["sync/atomic.LoadUint32", "(*internal/sync.Mutex).Lock", "internal/race.Disable", "sync/atomic.CompareAndSwapInt32", "internal/race.Enable", "internal/race.Acquire", "(*internal/sync.Mutex).lockSlow", "internal/sync.runtime_canSpin", "internal/sync.runtime_doSpin", "internal/sync.throw", "internal/sync.runtime_nanotime", "internal/sync.runtime_SemacquireMutex", "sync/atomic.AddInt32", "(*internal/sync.Mutex).Unlock", "internal/race.ReleaseMerge", "(*internal/sync.Mutex).unlockSlow", "internal/sync.fatal", "internal/sync.runtime_Semrelease", "sync/atomic.StoreUint32"], unfollowed := true, recurses := true, plainKeys := false, apart := false }
def LawS3078AOverSaid : Prop := lawS3078AOverRow.holds Yba.pinned (OpenSpec.ofChange lawS3078AOverSpec)

/-- ITS FALSE NEIGHBOUR: 'it returns false'. Refute it at one input. -/
def lawS3078AOverWrong : ChangeSpec := { name := "lawS3078AOver", fn := fun _ => fun
  | [d1, d2, d3, d4] => { results := [.lit (.bool false)], args := [d1, d2, d3, d4] }
  | _ => none }
def LawS3078AOverWrongFalsely : Prop := lawS3078AOverRow.holds Yba.pinned (OpenSpec.ofChange lawS3078AOverWrong)

/-- 'bindweed.LawS3078BClears': WHATEVER THE INPUT: true; the input reads as it did. -/
def lawS3078BClearsSpec : ChangeSpec := { name := "lawS3078BClears", fn := fun _ => fun
  | [d1, d2] => { results := [.lit (.bool true)], args := [d1, d2] }
  | _ => none }
def lawS3078BClearsRow : OpenClaim := { program := "ybulkbksk", sum := "17a0715345b09e58c63f57f12b8726df34c7ead665cb68886cae665b6c265df9", func := "example.com/bindweed/bindweed.LawS3078BClears", spec := "lawS3078BClears", plainKeys := false, apart := false }
def LawS3078BClearsSaid : Prop := lawS3078BClearsRow.holds Yba.pinned (OpenSpec.ofChange lawS3078BClearsSpec)

/-- ITS FALSE NEIGHBOUR: 'it returns false'. Refute it at one input. -/
def lawS3078BClearsWrong : ChangeSpec := { name := "lawS3078BClears", fn := fun _ => fun
  | [d1, d2] => { results := [.lit (.bool false)], args := [d1, d2] }
  | _ => none }
def LawS3078BClearsWrongFalsely : Prop := lawS3078BClearsRow.holds Yba.pinned (OpenSpec.ofChange lawS3078BClearsWrong)

/-- 'bindweed.LawS3078CNoBatch': WHATEVER THE INPUT: true; the input reads as it did. -/
def lawS3078CNoBatchSpec : ChangeSpec := { name := "lawS3078CNoBatch", fn := fun _ => fun
  | [d] => { results := [.lit (.bool true)], args := [d] }
  | _ => none }
def lawS3078CNoBatchRow : OpenClaim := { program := "ybulkbksk", sum := "17a0715345b09e58c63f57f12b8726df34c7ead665cb68886cae665b6c265df9", func := "example.com/bindweed/bindweed.LawS3078CNoBatch", spec := "lawS3078CNoBatch", plainKeys := false, apart := false }
def LawS3078CNoBatchSaid : Prop := lawS3078CNoBatchRow.holds Yba.pinned (OpenSpec.ofChange lawS3078CNoBatchSpec)

/-- ITS FALSE NEIGHBOUR: 'it returns false'. Refute it at one input. -/
def lawS3078CNoBatchWrong : ChangeSpec := { name := "lawS3078CNoBatch", fn := fun _ => fun
  | [d] => { results := [.lit (.bool false)], args := [d] }
  | _ => none }
def LawS3078CNoBatchWrongFalsely : Prop := lawS3078CNoBatchRow.holds Yba.pinned (OpenSpec.ofChange lawS3078CNoBatchWrong)

/-- 'bindweed.LawS3078CBatch': WHATEVER THE INPUT: true; the input reads as it did. -/
def lawS3078CBatchSpec : ChangeSpec := { name := "lawS3078CBatch", fn := fun _ => fun
  | [d] => { results := [.lit (.bool true)], args := [d] }
  | _ => none }
def lawS3078CBatchRow : OpenClaim := { program := "ybulkbksk", sum := "17a0715345b09e58c63f57f12b8726df34c7ead665cb68886cae665b6c265df9", func := "example.com/bindweed/bindweed.LawS3078CBatch", spec := "lawS3078CBatch", plainKeys := false, apart := false }
def LawS3078CBatchSaid : Prop := lawS3078CBatchRow.holds Yba.pinned (OpenSpec.ofChange lawS3078CBatchSpec)

/-- ITS FALSE NEIGHBOUR: 'it returns false'. Refute it at one input. -/
def lawS3078CBatchWrong : ChangeSpec := { name := "lawS3078CBatch", fn := fun _ => fun
  | [d] => { results := [.lit (.bool false)], args := [d] }
  | _ => none }
def LawS3078CBatchWrongFalsely : Prop := lawS3078CBatchRow.holds Yba.pinned (OpenSpec.ofChange lawS3078CBatchWrong)

end Rows
end Go.Proofs.Ybulkbksk
