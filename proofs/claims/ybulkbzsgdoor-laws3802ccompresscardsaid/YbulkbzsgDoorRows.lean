/-
  NARROWER THAN 'FOR EVERY INPUT', by the rows' own cells (each row's printed sentence says how): LawS3802CPlain: ifaces, laid · LawS3802CCompress: ifaces, laid.
  DERIVED. THE GIVEN ROWS OF THIS SEAT. 2 by the template 'for every input the law returns true; each argument reads behind the call as it read before'; 0 by the template 'total and deterministic' (their statements: YbulkbzsgDoorTotals.lean).
  GIVEN WITH THE SEED: the statements are not yours to turn. If you find one false, say at which input.
  Laid BY PROGRAM, IN A SANDBOX (cutbox-rows.mjs): the forced cells as the released guide's own fill.sh prints them over the translation b1e6ea530ca3498d… (all of the seat's roots in one cut). By AI agents, Wed Nov 11 2026. No macro, syntax, notation, axiom, sorry.
-/
import Derived.Test.YbulkbzsgDoorChecked
import GoSem.Claim
import GoSem.ClaimJoined
import GoSem.ClaimMapViews
import Derived.JoinedTies
import Derived.KernelRfl
namespace Go.Proofs.YbulkbzsgDoor
/- THE CELL 'sum', in the pinned program and in every row, IS THE sha256 OF THE DUMP (.gsa) THAT YbulkbzsgDoorProg.lean LOADS. Nothing in Lean hashes anything: it is a label: what it is worth is what the hold of that sum in a sandbox is worth. -/
noncomputable def Ybad.pinned : Pinned := { name := "ybulkbzsgdoor", sum := "b1e6ea530ca3498d71f9b967f2c054e3932ea1317cdd02d0a30d58020aaba4c1", checked := Ybad.checked }
namespace Rows
def none {H : Type} : Left H := { results := [], args := [] }

/- WHAT THE LISTED PACKAGE-LEVEL VARIABLES READ AS WHEN THE CALL BEGINS. Each datum BY PROGRAM (the guide's laid-datum.mjs) off the statement by which the dump's own 'gosem.cut.vars' lays the variable. In a bare row this is a premise. The card (YbulkbzsgDoorCards.lean) ties it to the program's text. -/
def laid_example_com_optwire_optwire_wire_errNameLen {H : Type} : DataW H := .iface "*errors.errorString" (.ptr (.agg [.lit (.string [110, 97, 109, 101, 32, 108, 111, 110, 103, 101, 114, 32, 116, 104, 97, 110, 32, 50, 53, 53, 32, 111, 99, 116, 101, 116, 115])]))
def laid_example_com_optwire_optwire_wire_errLabelLen {H : Type} : DataW H := .iface "*errors.errorString" (.ptr (.agg [.lit (.string [108, 97, 98, 101, 108, 32, 108, 111, 110, 103, 101, 114, 32, 116, 104, 97, 110, 32, 54, 51, 32, 111, 99, 116, 101, 116, 115])]))
def laid_example_com_optwire_optwire_wire_errEmpty {H : Type} : DataW H := .iface "*errors.errorString" (.ptr (.agg [.lit (.string [101, 109, 112, 116, 121, 32, 108, 97, 98, 101, 108])]))

/-- 'wire.LawS3802CPlain': WHATEVER THE INPUT: true; the input reads as it did. -/
def lawS3802CPlainSpec : ChangeSpec := { name := "lawS3802CPlain", vars := ["example.com/optwire/optwire/wire.errEmpty", "example.com/optwire/optwire/wire.errLabelLen", "example.com/optwire/optwire/wire.errNameLen"], fn := fun _ => fun
  | [d1, d2, d3, d4, d5, d6, d7, d8, g1, g2, g3] => { results := [.lit (.bool true)], args := [d1, d2, d3, d4, d5, d6, d7, d8], vars := [g1, g2, g3] }
  | _ => none }
def lawS3802CPlainRow : OpenClaim := { program := "ybulkbzsgdoor", sum := "b1e6ea530ca3498d71f9b967f2c054e3932ea1317cdd02d0a30d58020aaba4c1", func := "example.com/optwire/optwire/wire.LawS3802CPlain", spec := "lawS3802CPlain", named := ["encoding/binary.BigEndian", "example.com/optwire/optwire/wire.errEmpty", "example.com/optwire/optwire/wire.errLabelLen", "example.com/optwire/optwire/wire.errNameLen"], ifaces := true, apart := false, laid := [("example.com/optwire/optwire/wire.errNameLen", laid_example_com_optwire_optwire_wire_errNameLen), ("example.com/optwire/optwire/wire.errLabelLen", laid_example_com_optwire_optwire_wire_errLabelLen), ("example.com/optwire/optwire/wire.errEmpty", laid_example_com_optwire_optwire_wire_errEmpty)] }
def LawS3802CPlainSaid : Prop := lawS3802CPlainRow.holds Ybad.pinned (OpenSpec.ofChange lawS3802CPlainSpec)

/-- ITS FALSE NEIGHBOUR: 'it returns false'. Refute it at one input. -/
def lawS3802CPlainWrong : ChangeSpec := { name := "lawS3802CPlain", vars := ["example.com/optwire/optwire/wire.errEmpty", "example.com/optwire/optwire/wire.errLabelLen", "example.com/optwire/optwire/wire.errNameLen"], fn := fun _ => fun
  | [d1, d2, d3, d4, d5, d6, d7, d8, g1, g2, g3] => { results := [.lit (.bool false)], args := [d1, d2, d3, d4, d5, d6, d7, d8], vars := [g1, g2, g3] }
  | _ => none }
def LawS3802CPlainWrongFalsely : Prop := lawS3802CPlainRow.holds Ybad.pinned (OpenSpec.ofChange lawS3802CPlainWrong)

/-- 'wire.LawS3802CCompress': WHATEVER THE INPUT: true; the input reads as it did. -/
def lawS3802CCompressSpec : ChangeSpec := { name := "lawS3802CCompress", vars := ["example.com/optwire/optwire/wire.errEmpty", "example.com/optwire/optwire/wire.errLabelLen", "example.com/optwire/optwire/wire.errNameLen"], fn := fun _ => fun
  | [d1, d2, d3, d4, d5, d6, d7, d8, g1, g2, g3] => { results := [.lit (.bool true)], args := [d1, d2, d3, d4, d5, d6, d7, d8], vars := [g1, g2, g3] }
  | _ => none }
def lawS3802CCompressRow : OpenClaim := { program := "ybulkbzsgdoor", sum := "b1e6ea530ca3498d71f9b967f2c054e3932ea1317cdd02d0a30d58020aaba4c1", func := "example.com/optwire/optwire/wire.LawS3802CCompress", spec := "lawS3802CCompress", named := ["encoding/binary.BigEndian", "example.com/optwire/optwire/wire.errEmpty", "example.com/optwire/optwire/wire.errLabelLen", "example.com/optwire/optwire/wire.errNameLen"], ifaces := true, apart := false, laid := [("example.com/optwire/optwire/wire.errNameLen", laid_example_com_optwire_optwire_wire_errNameLen), ("example.com/optwire/optwire/wire.errLabelLen", laid_example_com_optwire_optwire_wire_errLabelLen), ("example.com/optwire/optwire/wire.errEmpty", laid_example_com_optwire_optwire_wire_errEmpty)] }
def LawS3802CCompressSaid : Prop := lawS3802CCompressRow.holds Ybad.pinned (OpenSpec.ofChange lawS3802CCompressSpec)

/-- ITS FALSE NEIGHBOUR: 'it returns false'. Refute it at one input. -/
def lawS3802CCompressWrong : ChangeSpec := { name := "lawS3802CCompress", vars := ["example.com/optwire/optwire/wire.errEmpty", "example.com/optwire/optwire/wire.errLabelLen", "example.com/optwire/optwire/wire.errNameLen"], fn := fun _ => fun
  | [d1, d2, d3, d4, d5, d6, d7, d8, g1, g2, g3] => { results := [.lit (.bool false)], args := [d1, d2, d3, d4, d5, d6, d7, d8], vars := [g1, g2, g3] }
  | _ => none }
def LawS3802CCompressWrongFalsely : Prop := lawS3802CCompressRow.holds Ybad.pinned (OpenSpec.ofChange lawS3802CCompressWrong)

end Rows
end Go.Proofs.YbulkbzsgDoor
