/-
  No cell of these rows narrows 'for every input' (looked for: loops, veiled, ifaces, maps, wideKeys, modest, calm, conditions, laid).
  DERIVED. THE GIVEN ROWS OF THIS SEAT. 2 by the template 'for every input the law returns true; each argument reads behind the call as it read before'; 0 by the template 'total and deterministic' (their statements: YbulkbnyyTotals.lean).
  GIVEN WITH THE SEED: the statements are not yours to turn. If you find one false, say at which input.
  Laid BY PROGRAM, IN A SANDBOX (cutbox-rows.mjs): the forced cells as the released guide's own fill.sh prints them over the translation bfac9141fc0167cb… (all of the seat's roots in one cut). By AI agents, Wed Nov 11 2026. No macro, syntax, notation, axiom, sorry.
-/
import Derived.Test.YbulkbnyyChecked
import GoSem.Claim
import GoSem.ClaimJoined
import GoSem.ClaimMapViews
import Derived.JoinedTies
import Derived.KernelRfl
namespace Go.Proofs.Ybulkbnyy
/- THE CELL 'sum', in the pinned program and in every row, IS THE sha256 OF THE DUMP (.gsa) THAT YbulkbnyyProg.lean LOADS. Nothing in Lean hashes anything: it is a label: what it is worth is what the hold of that sum in a sandbox is worth. -/
noncomputable def Yba.pinned : Pinned := { name := "ybulkbnyy", sum := "bfac9141fc0167cb2b1f173fc86ad202d44fc64dd07e6d95be30986f22e3cc0d", checked := Yba.checked }
namespace Rows
def none {H : Type} : Left H := { results := [], args := [] }

/-- 'policy.LawS3235BAllocate': WHATEVER THE INPUT: true; the input reads as it did. -/
def lawS3235BAllocateSpec : ChangeSpec := { name := "lawS3235BAllocate", fn := fun _ => fun
  | [d1, d2, d3] => { results := [.lit (.bool true)], args := [d1, d2, d3] }
  | _ => none }
def lawS3235BAllocateRow : OpenClaim := { program := "ybulkbnyy", sum := "bfac9141fc0167cb2b1f173fc86ad202d44fc64dd07e6d95be30986f22e3cc0d", func := "example.com/kneepoint/kneepoint/pkg/policy.LawS3235BAllocate", spec := "lawS3235BAllocate", inPlace := ["math.Float64bits"], apart := false }
def LawS3235BAllocateSaid : Prop := lawS3235BAllocateRow.holds Yba.pinned (OpenSpec.ofChange lawS3235BAllocateSpec)

/-- ITS FALSE NEIGHBOUR: 'it returns false'. Refute it at one input. -/
def lawS3235BAllocateWrong : ChangeSpec := { name := "lawS3235BAllocate", fn := fun _ => fun
  | [d1, d2, d3] => { results := [.lit (.bool false)], args := [d1, d2, d3] }
  | _ => none }
def LawS3235BAllocateWrongFalsely : Prop := lawS3235BAllocateRow.holds Yba.pinned (OpenSpec.ofChange lawS3235BAllocateWrong)

/-- 'policy.LawS3235CStepDown': WHATEVER THE INPUT: true; the input reads as it did. -/
def lawS3235CStepDownSpec : ChangeSpec := { name := "lawS3235CStepDown", fn := fun _ => fun
  | [d1, d2, d3, d4, d5] => { results := [.lit (.bool true)], args := [d1, d2, d3, d4, d5] }
  | _ => none }
def lawS3235CStepDownRow : OpenClaim := { program := "ybulkbnyy", sum := "bfac9141fc0167cb2b1f173fc86ad202d44fc64dd07e6d95be30986f22e3cc0d", func := "example.com/kneepoint/kneepoint/pkg/policy.LawS3235CStepDown", spec := "lawS3235CStepDown", apart := false }
def LawS3235CStepDownSaid : Prop := lawS3235CStepDownRow.holds Yba.pinned (OpenSpec.ofChange lawS3235CStepDownSpec)

/-- ITS FALSE NEIGHBOUR: 'it returns false'. Refute it at one input. -/
def lawS3235CStepDownWrong : ChangeSpec := { name := "lawS3235CStepDown", fn := fun _ => fun
  | [d1, d2, d3, d4, d5] => { results := [.lit (.bool false)], args := [d1, d2, d3, d4, d5] }
  | _ => none }
def LawS3235CStepDownWrongFalsely : Prop := lawS3235CStepDownRow.holds Yba.pinned (OpenSpec.ofChange lawS3235CStepDownWrong)

end Rows
end Go.Proofs.Ybulkbnyy
