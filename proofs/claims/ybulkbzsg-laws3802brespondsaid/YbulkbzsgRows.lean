/-
  No cell of these rows narrows 'for every input' (looked for: loops, veiled, ifaces, maps, wideKeys, modest, calm, conditions, laid).
  DERIVED. THE GIVEN ROWS OF THIS SEAT. 2 by the template 'for every input the law returns true; each argument reads behind the call as it read before'; 0 by the template 'total and deterministic' (their statements: YbulkbzsgTotals.lean).
  GIVEN WITH THE SEED: the statements are not yours to turn. If you find one false, say at which input.
  Laid BY PROGRAM, IN A SANDBOX (cutbox-rows.mjs): the forced cells as the released guide's own fill.sh prints them over the translation a3030ff9ad0f7695… (all of the seat's roots in one cut). By AI agents, Wed Nov 11 2026. No macro, syntax, notation, axiom, sorry.
-/
import Derived.Test.YbulkbzsgChecked
import GoSem.Claim
import GoSem.ClaimJoined
import GoSem.ClaimMapViews
import Derived.JoinedTies
import Derived.KernelRfl
namespace Go.Proofs.Ybulkbzsg
/- THE CELL 'sum', in the pinned program and in every row, IS THE sha256 OF THE DUMP (.gsa) THAT YbulkbzsgProg.lean LOADS. Nothing in Lean hashes anything: it is a label: what it is worth is what the hold of that sum in a sandbox is worth. -/
noncomputable def Yba.pinned : Pinned := { name := "ybulkbzsg", sum := "a3030ff9ad0f7695f54aa26e98d07460bee349eb69597cec4c69e05fcd8ffd15", checked := Yba.checked }
namespace Rows
def none {H : Type} : Left H := { results := [], args := [] }

/-- 'rules.LawS3802BRespond': WHATEVER THE INPUT: true; the input reads as it did. -/
def lawS3802BRespondSpec : ChangeSpec := { name := "lawS3802BRespond", fn := fun _ => fun
  | [d1, d2, d3] => { results := [.lit (.bool true)], args := [d1, d2, d3] }
  | _ => none }
def lawS3802BRespondRow : OpenClaim := { program := "ybulkbzsg", sum := "a3030ff9ad0f7695f54aa26e98d07460bee349eb69597cec4c69e05fcd8ffd15", func := "example.com/optwire/optwire/rules.LawS3802BRespond", spec := "lawS3802BRespond", named := ["encoding/binary.BigEndian"], apart := false }
def LawS3802BRespondSaid : Prop := lawS3802BRespondRow.holds Yba.pinned (OpenSpec.ofChange lawS3802BRespondSpec)

/-- ITS FALSE NEIGHBOUR: 'it returns false'. Refute it at one input. -/
def lawS3802BRespondWrong : ChangeSpec := { name := "lawS3802BRespond", fn := fun _ => fun
  | [d1, d2, d3] => { results := [.lit (.bool false)], args := [d1, d2, d3] }
  | _ => none }
def LawS3802BRespondWrongFalsely : Prop := lawS3802BRespondRow.holds Yba.pinned (OpenSpec.ofChange lawS3802BRespondWrong)

/-- 'rules.LawS3802BPayload': WHATEVER THE INPUT: true; the input reads as it did. -/
def lawS3802BPayloadSpec : ChangeSpec := { name := "lawS3802BPayload", fn := fun _ => fun
  | [d1, d2, d3] => { results := [.lit (.bool true)], args := [d1, d2, d3] }
  | _ => none }
def lawS3802BPayloadRow : OpenClaim := { program := "ybulkbzsg", sum := "a3030ff9ad0f7695f54aa26e98d07460bee349eb69597cec4c69e05fcd8ffd15", func := "example.com/optwire/optwire/rules.LawS3802BPayload", spec := "lawS3802BPayload", named := ["encoding/binary.BigEndian"], apart := false }
def LawS3802BPayloadSaid : Prop := lawS3802BPayloadRow.holds Yba.pinned (OpenSpec.ofChange lawS3802BPayloadSpec)

/-- ITS FALSE NEIGHBOUR: 'it returns false'. Refute it at one input. -/
def lawS3802BPayloadWrong : ChangeSpec := { name := "lawS3802BPayload", fn := fun _ => fun
  | [d1, d2, d3] => { results := [.lit (.bool false)], args := [d1, d2, d3] }
  | _ => none }
def LawS3802BPayloadWrongFalsely : Prop := lawS3802BPayloadRow.holds Yba.pinned (OpenSpec.ofChange lawS3802BPayloadWrong)

end Rows
end Go.Proofs.Ybulkbzsg
