/-
  No cell of these rows narrows 'for every input' (looked for: loops, veiled, ifaces, maps, wideKeys, modest, calm, conditions, laid).
  DERIVED. THE GIVEN ROWS OF THIS SEAT. 1 by the template 'for every input the law returns true; each argument reads behind the call as it read before'; 0 by the template 'total and deterministic' (their statements: YbulkbzukTotals.lean).
  GIVEN WITH THE SEED: the statements are not yours to turn. If you find one false, say at which input.
  Laid BY PROGRAM, IN A SANDBOX (cutbox-rows.mjs): the forced cells as the released guide's own fill.sh prints them over the translation d34bbb295ca0b380… (all of the seat's roots in one cut). By AI agents, Wed Nov 11 2026. No macro, syntax, notation, axiom, sorry.
-/
import Derived.Test.YbulkbzukChecked
import GoSem.Claim
import GoSem.ClaimJoined
import GoSem.ClaimMapViews
import Derived.JoinedTies
import Derived.KernelRfl
namespace Go.Proofs.Ybulkbzuk
/- THE CELL 'sum', in the pinned program and in every row, IS THE sha256 OF THE DUMP (.gsa) THAT YbulkbzukProg.lean LOADS. Nothing in Lean hashes anything: it is a label: what it is worth is what the hold of that sum in a sandbox is worth. -/
noncomputable def Yba.pinned : Pinned := { name := "ybulkbzuk", sum := "d34bbb295ca0b38062b80bce44eec69c6468d0b1ae66790f82a9d77a6ef011af", checked := Yba.checked }
namespace Rows
def none {H : Type} : Left H := { results := [], args := [] }

/-- 'download.LawS3806BName': WHATEVER THE INPUT: true; the input reads as it did. -/
def lawS3806BNameSpec : ChangeSpec := { name := "lawS3806BName", fn := fun _ => fun
  | [d1, d2, d3] => { results := [.lit (.bool true)], args := [d1, d2, d3] }
  | _ => none }
def lawS3806BNameRow : OpenClaim := { program := "ybulkbzuk", sum := "d34bbb295ca0b38062b80bce44eec69c6468d0b1ae66790f82a9d77a6ef011af", func := "example.com/tidewire/tidewire/pkg/download.LawS3806BName", spec := "lawS3806BName", unfollowed := true, recurses := true, apart := false }
def LawS3806BNameSaid : Prop := lawS3806BNameRow.holds Yba.pinned (OpenSpec.ofChange lawS3806BNameSpec)

/-- ITS FALSE NEIGHBOUR: 'it returns false'. Refute it at one input. -/
def lawS3806BNameWrong : ChangeSpec := { name := "lawS3806BName", fn := fun _ => fun
  | [d1, d2, d3] => { results := [.lit (.bool false)], args := [d1, d2, d3] }
  | _ => none }
def LawS3806BNameWrongFalsely : Prop := lawS3806BNameRow.holds Yba.pinned (OpenSpec.ofChange lawS3806BNameWrong)

end Rows
end Go.Proofs.Ybulkbzuk
