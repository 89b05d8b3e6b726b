/-
  No cell of these rows narrows 'for every input' (looked for: loops, veiled, ifaces, maps, wideKeys, modest, calm, conditions, laid).
  DERIVED. THE GIVEN ROWS OF THIS SEAT. 1 by the template 'for every input the law returns true; each argument reads behind the call as it read before'; 0 by the template 'total and deterministic' (their statements: YbulkblccTotals.lean).
  GIVEN WITH THE SEED: the statements are not yours to turn. If you find one false, say at which input.
  Laid BY PROGRAM, IN A SANDBOX (cutbox-rows.mjs): the forced cells as the released guide's own fill.sh prints them over the translation 683f31bbf872bb61… (all of the seat's roots in one cut). By AI agents, Wed Nov 11 2026. No macro, syntax, notation, axiom, sorry.
-/
import Derived.Test.YbulkblccChecked
import GoSem.Claim
import GoSem.ClaimJoined
import GoSem.ClaimMapViews
import Derived.JoinedTies
import Derived.KernelRfl
namespace Go.Proofs.Ybulkblcc
/- THE CELL 'sum', in the pinned program and in every row, IS THE sha256 OF THE DUMP (.gsa) THAT YbulkblccProg.lean LOADS. Nothing in Lean hashes anything: it is a label: what it is worth is what the hold of that sum in a sandbox is worth. -/
noncomputable def Yba.pinned : Pinned := { name := "ybulkblcc", sum := "683f31bbf872bb616a7c1625b115f8b259ed619a6bc8df1b7ce9d0b8b1b468ad", checked := Yba.checked }
namespace Rows
def none {H : Type} : Left H := { results := [], args := [] }

/-- 'sched.LawS3096BPutNext': WHATEVER THE INPUT: true; the input reads as it did. -/
def lawS3096BPutNextSpec : ChangeSpec := { name := "lawS3096BPutNext", fn := fun _ => fun
  | [d1, d2, d3, d4, d5] => { results := [.lit (.bool true)], args := [d1, d2, d3, d4, d5] }
  | _ => none }
def lawS3096BPutNextRow : OpenClaim := { program := "ybulkblcc", sum := "683f31bbf872bb616a7c1625b115f8b259ed619a6bc8df1b7ce9d0b8b1b468ad", func := "example.com/borrowed-threads/borrowed-threads/sched.LawS3096BPutNext", spec := "lawS3096BPutNext", apart := false }
def LawS3096BPutNextSaid : Prop := lawS3096BPutNextRow.holds Yba.pinned (OpenSpec.ofChange lawS3096BPutNextSpec)

/-- ITS FALSE NEIGHBOUR: 'it returns false'. Refute it at one input. -/
def lawS3096BPutNextWrong : ChangeSpec := { name := "lawS3096BPutNext", fn := fun _ => fun
  | [d1, d2, d3, d4, d5] => { results := [.lit (.bool false)], args := [d1, d2, d3, d4, d5] }
  | _ => none }
def LawS3096BPutNextWrongFalsely : Prop := lawS3096BPutNextRow.holds Yba.pinned (OpenSpec.ofChange lawS3096BPutNextWrong)

end Rows
end Go.Proofs.Ybulkblcc
