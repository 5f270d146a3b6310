/-
  No cell of these rows narrows 'for every input' (looked for: loops, veiled, ifaces, maps, wideKeys, modest, calm, conditions, laid).
  DERIVED. THE GIVEN ROWS OF THIS SEAT. 6 by the template 'for every input the law returns true; each argument reads behind the call as it read before'; 0 by the template 'total and deterministic' (their statements: YbulkbnucTotals.lean).
  GIVEN WITH THE SEED: the statements are not yours to turn. If you find one false, say at which input.
  Laid BY PROGRAM, IN A SANDBOX (cutbox-rows.mjs): the forced cells as the released guide's own fill.sh prints them over the translation a5ff82c5eeb1ff15… (all of the seat's roots in one cut). By AI agents, Wed Nov 11 2026. No macro, syntax, notation, axiom, sorry.
-/
import Derived.Test.YbulkbnucChecked
import GoSem.Claim
import GoSem.ClaimJoined
import GoSem.ClaimMapViews
import Derived.JoinedTies
import Derived.KernelRfl
namespace Go.Proofs.Ybulkbnuc
/- THE CELL 'sum', in the pinned program and in every row, IS THE sha256 OF THE DUMP (.gsa) THAT YbulkbnucProg.lean LOADS. Nothing in Lean hashes anything: it is a label: what it is worth is what the hold of that sum in a sandbox is worth. -/
noncomputable def Yba.pinned : Pinned := { name := "ybulkbnuc", sum := "a5ff82c5eeb1ff15d9438f9029ab8fe6cf8cba2d5bf95cca4e4249676ff96341", checked := Yba.checked }
namespace Rows
def none {H : Type} : Left H := { results := [], args := [] }

/-- 'coreward.LawS3226AIndexes': WHATEVER THE INPUT: true; the input reads as it did. -/
def lawS3226AIndexesSpec : ChangeSpec := { name := "lawS3226AIndexes", fn := fun _ => fun
  | [d1, d2] => { results := [.lit (.bool true)], args := [d1, d2] }
  | _ => none }
def lawS3226AIndexesRow : OpenClaim := { program := "ybulkbnuc", sum := "a5ff82c5eeb1ff15d9438f9029ab8fe6cf8cba2d5bf95cca4e4249676ff96341", func := "example.com/coreward/coreward.LawS3226AIndexes", spec := "lawS3226AIndexes", unfollowed := true, recurses := true, apart := false }
def LawS3226AIndexesSaid : Prop := lawS3226AIndexesRow.holds Yba.pinned (OpenSpec.ofChange lawS3226AIndexesSpec)

/-- ITS FALSE NEIGHBOUR: 'it returns false'. Refute it at one input. -/
def lawS3226AIndexesWrong : ChangeSpec := { name := "lawS3226AIndexes", fn := fun _ => fun
  | [d1, d2] => { results := [.lit (.bool false)], args := [d1, d2] }
  | _ => none }
def LawS3226AIndexesWrongFalsely : Prop := lawS3226AIndexesRow.holds Yba.pinned (OpenSpec.ofChange lawS3226AIndexesWrong)

/-- 'coreward.LawS3226AMayHold': WHATEVER THE INPUT: true; the input reads as it did. -/
def lawS3226AMayHoldSpec : ChangeSpec := { name := "lawS3226AMayHold", fn := fun _ => fun
  | [d1, d2] => { results := [.lit (.bool true)], args := [d1, d2] }
  | _ => none }
def lawS3226AMayHoldRow : OpenClaim := { program := "ybulkbnuc", sum := "a5ff82c5eeb1ff15d9438f9029ab8fe6cf8cba2d5bf95cca4e4249676ff96341", func := "example.com/coreward/coreward.LawS3226AMayHold", spec := "lawS3226AMayHold", unfollowed := true, recurses := true, apart := false }
def LawS3226AMayHoldSaid : Prop := lawS3226AMayHoldRow.holds Yba.pinned (OpenSpec.ofChange lawS3226AMayHoldSpec)

/-- ITS FALSE NEIGHBOUR: 'it returns false'. Refute it at one input. -/
def lawS3226AMayHoldWrong : ChangeSpec := { name := "lawS3226AMayHold", fn := fun _ => fun
  | [d1, d2] => { results := [.lit (.bool false)], args := [d1, d2] }
  | _ => none }
def LawS3226AMayHoldWrongFalsely : Prop := lawS3226AMayHoldRow.holds Yba.pinned (OpenSpec.ofChange lawS3226AMayHoldWrong)

/-- 'coreward.LawS3226BFills': WHATEVER THE INPUT: true; the input reads as it did. -/
def lawS3226BFillsSpec : ChangeSpec := { name := "lawS3226BFills", fn := fun _ => fun
  | [d1, d2, d3] => { results := [.lit (.bool true)], args := [d1, d2, d3] }
  | _ => none }
def lawS3226BFillsRow : OpenClaim := { program := "ybulkbnuc", sum := "a5ff82c5eeb1ff15d9438f9029ab8fe6cf8cba2d5bf95cca4e4249676ff96341", func := "example.com/coreward/coreward.LawS3226BFills", spec := "lawS3226BFills", apart := false }
def LawS3226BFillsSaid : Prop := lawS3226BFillsRow.holds Yba.pinned (OpenSpec.ofChange lawS3226BFillsSpec)

/-- ITS FALSE NEIGHBOUR: 'it returns false'. Refute it at one input. -/
def lawS3226BFillsWrong : ChangeSpec := { name := "lawS3226BFills", fn := fun _ => fun
  | [d1, d2, d3] => { results := [.lit (.bool false)], args := [d1, d2, d3] }
  | _ => none }
def LawS3226BFillsWrongFalsely : Prop := lawS3226BFillsRow.holds Yba.pinned (OpenSpec.ofChange lawS3226BFillsWrong)

/-- 'coreward.LawS3226BNilNoop': WHATEVER THE INPUT: true; the input reads as it did. -/
def lawS3226BNilNoopSpec : ChangeSpec := { name := "lawS3226BNilNoop", fn := fun _ => fun
  | [d1, d2, d3, d4] => { results := [.lit (.bool true)], args := [d1, d2, d3, d4] }
  | _ => none }
def lawS3226BNilNoopRow : OpenClaim := { program := "ybulkbnuc", sum := "a5ff82c5eeb1ff15d9438f9029ab8fe6cf8cba2d5bf95cca4e4249676ff96341", func := "example.com/coreward/coreward.LawS3226BNilNoop", spec := "lawS3226BNilNoop", apart := false }
def LawS3226BNilNoopSaid : Prop := lawS3226BNilNoopRow.holds Yba.pinned (OpenSpec.ofChange lawS3226BNilNoopSpec)

/-- ITS FALSE NEIGHBOUR: 'it returns false'. Refute it at one input. -/
def lawS3226BNilNoopWrong : ChangeSpec := { name := "lawS3226BNilNoop", fn := fun _ => fun
  | [d1, d2, d3, d4] => { results := [.lit (.bool false)], args := [d1, d2, d3, d4] }
  | _ => none }
def LawS3226BNilNoopWrongFalsely : Prop := lawS3226BNilNoopRow.holds Yba.pinned (OpenSpec.ofChange lawS3226BNilNoopWrong)

/-- 'coreward.LawS3226CBytes': WHATEVER THE INPUT: true; the input reads as it did. -/
def lawS3226CBytesSpec : ChangeSpec := { name := "lawS3226CBytes", fn := fun _ => fun
  | [d1, d2] => { results := [.lit (.bool true)], args := [d1, d2] }
  | _ => none }
def lawS3226CBytesRow : OpenClaim := { program := "ybulkbnuc", sum := "a5ff82c5eeb1ff15d9438f9029ab8fe6cf8cba2d5bf95cca4e4249676ff96341", func := "example.com/coreward/coreward.LawS3226CBytes", spec := "lawS3226CBytes", apart := false }
def LawS3226CBytesSaid : Prop := lawS3226CBytesRow.holds Yba.pinned (OpenSpec.ofChange lawS3226CBytesSpec)

/-- ITS FALSE NEIGHBOUR: 'it returns false'. Refute it at one input. -/
def lawS3226CBytesWrong : ChangeSpec := { name := "lawS3226CBytes", fn := fun _ => fun
  | [d1, d2] => { results := [.lit (.bool false)], args := [d1, d2] }
  | _ => none }
def LawS3226CBytesWrongFalsely : Prop := lawS3226CBytesRow.holds Yba.pinned (OpenSpec.ofChange lawS3226CBytesWrong)

/-- 'coreward.LawS3226CRoundTrip': WHATEVER THE INPUT: true; the input reads as it did. -/
def lawS3226CRoundTripSpec : ChangeSpec := { name := "lawS3226CRoundTrip", fn := fun _ => fun
  | [d1, d2, d3] => { results := [.lit (.bool true)], args := [d1, d2, d3] }
  | _ => none }
def lawS3226CRoundTripRow : OpenClaim := { program := "ybulkbnuc", sum := "a5ff82c5eeb1ff15d9438f9029ab8fe6cf8cba2d5bf95cca4e4249676ff96341", func := "example.com/coreward/coreward.LawS3226CRoundTrip", spec := "lawS3226CRoundTrip", apart := false }
def LawS3226CRoundTripSaid : Prop := lawS3226CRoundTripRow.holds Yba.pinned (OpenSpec.ofChange lawS3226CRoundTripSpec)

/-- ITS FALSE NEIGHBOUR: 'it returns false'. Refute it at one input. -/
def lawS3226CRoundTripWrong : ChangeSpec := { name := "lawS3226CRoundTrip", fn := fun _ => fun
  | [d1, d2, d3] => { results := [.lit (.bool false)], args := [d1, d2, d3] }
  | _ => none }
def LawS3226CRoundTripWrongFalsely : Prop := lawS3226CRoundTripRow.holds Yba.pinned (OpenSpec.ofChange lawS3226CRoundTripWrong)

end Rows
end Go.Proofs.Ybulkbnuc
