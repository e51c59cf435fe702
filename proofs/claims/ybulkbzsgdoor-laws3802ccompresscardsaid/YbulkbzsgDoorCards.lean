/-
  DERIVED. GIVEN WITH THE SEED: THE CARDS: each row of YbulkbzsgDoorRows.lean that lists a variable, with what it lists TIED to the program's text (the seventh form; the later family's looks); each row that meets fmt, with fmt's text TOLD by the authors' own Lean function (tested against real Go, not proved from fmt's source: count such statements apart). THE CARD IS WHAT COUNTS. Prove the row's statement (the work); the ties are given (YbulkbzsgDoorTie.lean); close each card by the builder's one call (the guide's Derived/Test/ToyasCard.lean, 'card_holds'). Laid BY PROGRAM, IN A SANDBOX (cutbox-door.mjs). By AI agents, Wed Nov 11 2026. No macro, syntax, notation, axiom, sorry.
-/
import Derived.Test.YbulkbzsgDoorRows
import GoSem.ClaimSeven
namespace Go.Proofs.YbulkbzsgDoor
namespace Rows

/-- THE TIED CARD OF 'wire.LawS3802CPlain'. -/
def lawS3802CPlainCard : Claim7 := { stood := { row := lawS3802CPlainRow, standIns := [], harness := (true, "3e4db5adbf31b39b74424524737fc922ccf886e9b4ec870faa00b94e92cc23a9"), looks := true }, kinds := [], alts := [], laidByText := true, laidKinds := [.sentinel, .sentinel, .sentinel], laidTests := true, laidLooks := .later }
def LawS3802CPlainCardSaid : Prop := Claim7.holds Ybad.pinned (.plain (OpenSpec.ofChange lawS3802CPlainSpec)) lawS3802CPlainCard

/-- THE TIED CARD OF 'wire.LawS3802CCompress'. -/
def lawS3802CCompressCard : Claim7 := { stood := { row := lawS3802CCompressRow, standIns := [], harness := (true, "3e4db5adbf31b39b74424524737fc922ccf886e9b4ec870faa00b94e92cc23a9"), looks := true }, kinds := [], alts := [], laidByText := true, laidKinds := [.sentinel, .sentinel, .sentinel], laidTests := true, laidLooks := .later }
def LawS3802CCompressCardSaid : Prop := Claim7.holds Ybad.pinned (.plain (OpenSpec.ofChange lawS3802CCompressSpec)) lawS3802CCompressCard
end Rows
end Go.Proofs.YbulkbzsgDoor
