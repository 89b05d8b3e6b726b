/-
  No cell of these rows narrows 'for every input' (looked for: loops, veiled, ifaces, maps, wideKeys, modest, calm, conditions, laid).
  DERIVED. THE GIVEN ROWS OF THIS SEAT. 2 by the template 'for every input the law returns true; each argument reads behind the call as it read before'; 0 by the template 'total and deterministic' (their statements: YbulkbksyTotals.lean).
  GIVEN WITH THE SEED: the statements are not yours to turn. If you find one false, say at which input.
  Laid BY PROGRAM, IN A SANDBOX (cutbox-rows.mjs): the forced cells as the released guide's own fill.sh prints them over the translation 2488ef37ec7a1dcb… (all of the seat's roots in one cut). By AI agents, Wed Nov 11 2026. No macro, syntax, notation, axiom, sorry.
-/
import Derived.Test.YbulkbksyChecked
import GoSem.Claim
import GoSem.ClaimJoined
import GoSem.ClaimMapViews
import Derived.JoinedTies
import Derived.KernelRfl
namespace Go.Proofs.Ybulkbksy
/- THE CELL 'sum', in the pinned program and in every row, IS THE sha256 OF THE DUMP (.gsa) THAT YbulkbksyProg.lean LOADS. Nothing in Lean hashes anything: it is a label: what it is worth is what the hold of that sum in a sandbox is worth. -/
noncomputable def Yba.pinned : Pinned := { name := "ybulkbksy", sum := "2488ef37ec7a1dcbb21ff6cfdc53aeb2ae88874e31742954c25dfb0dad4b71f0", checked := Yba.checked }
namespace Rows
def none {H : Type} : Left H := { results := [], args := [] }

/-- 'sealwax.LawS3079BModel': WHATEVER THE INPUT: true; the input reads as it did. -/
def lawS3079BModelSpec : ChangeSpec := { name := "lawS3079BModel", fn := fun _ => fun
  | [d] => { results := [.lit (.bool true)], args := [d] }
  | _ => none }
def lawS3079BModelRow : OpenClaim := { program := "ybulkbksy", sum := "2488ef37ec7a1dcbb21ff6cfdc53aeb2ae88874e31742954c25dfb0dad4b71f0", func := "example.com/sealwax/sealwax.LawS3079BModel", spec := "lawS3079BModel", named := ["encoding/binary.BigEndian"], apart := false }
def LawS3079BModelSaid : Prop := lawS3079BModelRow.holds Yba.pinned (OpenSpec.ofChange lawS3079BModelSpec)

/-- ITS FALSE NEIGHBOUR: 'it returns false'. Refute it at one input. -/
def lawS3079BModelWrong : ChangeSpec := { name := "lawS3079BModel", fn := fun _ => fun
  | [d] => { results := [.lit (.bool false)], args := [d] }
  | _ => none }
def LawS3079BModelWrongFalsely : Prop := lawS3079BModelRow.holds Yba.pinned (OpenSpec.ofChange lawS3079BModelWrong)

/-- 'sealwax.LawS3079BRoundTrip': WHATEVER THE INPUT: true; the input reads as it did. -/
def lawS3079BRoundTripSpec : ChangeSpec := { name := "lawS3079BRoundTrip", fn := fun _ => fun
  | [d1, d2] => { results := [.lit (.bool true)], args := [d1, d2] }
  | _ => none }
def lawS3079BRoundTripRow : OpenClaim := { program := "ybulkbksy", sum := "2488ef37ec7a1dcbb21ff6cfdc53aeb2ae88874e31742954c25dfb0dad4b71f0", func := "example.com/sealwax/sealwax.LawS3079BRoundTrip", spec := "lawS3079BRoundTrip", named := ["encoding/binary.BigEndian"], apart := false }
def LawS3079BRoundTripSaid : Prop := lawS3079BRoundTripRow.holds Yba.pinned (OpenSpec.ofChange lawS3079BRoundTripSpec)

/-- ITS FALSE NEIGHBOUR: 'it returns false'. Refute it at one input. -/
def lawS3079BRoundTripWrong : ChangeSpec := { name := "lawS3079BRoundTrip", fn := fun _ => fun
  | [d1, d2] => { results := [.lit (.bool false)], args := [d1, d2] }
  | _ => none }
def LawS3079BRoundTripWrongFalsely : Prop := lawS3079BRoundTripRow.holds Yba.pinned (OpenSpec.ofChange lawS3079BRoundTripWrong)

end Rows
end Go.Proofs.Ybulkbksy
