/-
  No cell of these rows narrows 'for every input' (looked for: loops, veiled, ifaces, maps, wideKeys, modest, calm, conditions, laid).
  DERIVED. THE GIVEN ROWS OF THIS SEAT. 2 by the template 'for every input the law returns true; each argument reads behind the call as it read before'; 0 by the template 'total and deterministic' (their statements: YbulkbnwuTotals.lean).
  GIVEN WITH THE SEED: the statements are not yours to turn. If you find one false, say at which input.
  Laid BY PROGRAM, IN A SANDBOX (cutbox-rows.mjs): the forced cells as the released guide's own fill.sh prints them over the translation cd61ff0a4a33982b… (all of the seat's roots in one cut). By AI agents, Wed Nov 11 2026. No macro, syntax, notation, axiom, sorry.
-/
import Derived.Test.YbulkbnwuChecked
import GoSem.Claim
import GoSem.ClaimJoined
import GoSem.ClaimMapViews
import Derived.JoinedTies
import Derived.KernelRfl
namespace Go.Proofs.Ybulkbnwu
/- THE CELL 'sum', in the pinned program and in every row, IS THE sha256 OF THE DUMP (.gsa) THAT YbulkbnwuProg.lean LOADS. Nothing in Lean hashes anything: it is a label: what it is worth is what the hold of that sum in a sandbox is worth. -/
noncomputable def Yba.pinned : Pinned := { name := "ybulkbnwu", sum := "cd61ff0a4a33982babfb4b75c3240f5ef7b24bb8d4970492dc6c410e870841db", checked := Yba.checked }
namespace Rows
def none {H : Type} : Left H := { results := [], args := [] }

/-- 'weftline.LawS3231AApply': WHATEVER THE INPUT: true; the input reads as it did. -/
def lawS3231AApplySpec : ChangeSpec := { name := "lawS3231AApply", fn := fun _ => fun
  | [d1, d2, d3, d4, d5] => { results := [.lit (.bool true)], args := [d1, d2, d3, d4, d5] }
  | _ => none }
def lawS3231AApplyRow : OpenClaim := { program := "ybulkbnwu", sum := "cd61ff0a4a33982babfb4b75c3240f5ef7b24bb8d4970492dc6c410e870841db", func := "example.com/weftline/weftline.LawS3231AApply", spec := "lawS3231AApply", unfollowed := true, recurses := true, apart := false }
def LawS3231AApplySaid : Prop := lawS3231AApplyRow.holds Yba.pinned (OpenSpec.ofChange lawS3231AApplySpec)

/-- ITS FALSE NEIGHBOUR: 'it returns false'. Refute it at one input. -/
def lawS3231AApplyWrong : ChangeSpec := { name := "lawS3231AApply", fn := fun _ => fun
  | [d1, d2, d3, d4, d5] => { results := [.lit (.bool false)], args := [d1, d2, d3, d4, d5] }
  | _ => none }
def LawS3231AApplyWrongFalsely : Prop := lawS3231AApplyRow.holds Yba.pinned (OpenSpec.ofChange lawS3231AApplyWrong)

/-- 'weftline.LawS3231AStrLen': WHATEVER THE INPUT: true; the input reads as it did. -/
def lawS3231AStrLenSpec : ChangeSpec := { name := "lawS3231AStrLen", fn := fun _ => fun
  | [d1, d2, d3, d4] => { results := [.lit (.bool true)], args := [d1, d2, d3, d4] }
  | _ => none }
def lawS3231AStrLenRow : OpenClaim := { program := "ybulkbnwu", sum := "cd61ff0a4a33982babfb4b75c3240f5ef7b24bb8d4970492dc6c410e870841db", func := "example.com/weftline/weftline.LawS3231AStrLen", spec := "lawS3231AStrLen", unfollowed := true, recurses := true, apart := false }
def LawS3231AStrLenSaid : Prop := lawS3231AStrLenRow.holds Yba.pinned (OpenSpec.ofChange lawS3231AStrLenSpec)

/-- ITS FALSE NEIGHBOUR: 'it returns false'. Refute it at one input. -/
def lawS3231AStrLenWrong : ChangeSpec := { name := "lawS3231AStrLen", fn := fun _ => fun
  | [d1, d2, d3, d4] => { results := [.lit (.bool false)], args := [d1, d2, d3, d4] }
  | _ => none }
def LawS3231AStrLenWrongFalsely : Prop := lawS3231AStrLenRow.holds Yba.pinned (OpenSpec.ofChange lawS3231AStrLenWrong)

end Rows
end Go.Proofs.Ybulkbnwu
