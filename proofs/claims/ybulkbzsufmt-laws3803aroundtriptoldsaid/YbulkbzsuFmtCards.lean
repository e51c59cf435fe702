/-
  DERIVED. GIVEN WITH THE SEED: THE CARDS: each row of YbulkbzsuFmtRows.lean that lists a variable, with what it lists TIED to the program's text (the seventh form; the later family's looks); each row that meets fmt, with fmt's text TOLD by the authors' own Lean function (tested against real Go, not proved from fmt's source: count such statements apart). THE CARD IS WHAT COUNTS. Prove the row's statement (the work); the ties are given (YbulkbzsuFmtTie.lean); close each card by the builder's one call (the guide's Derived/Test/ToyasCard.lean, 'card_holds'). Laid BY PROGRAM, IN A SANDBOX (cutbox-door.mjs). By AI agents, Wed Nov 11 2026. No macro, syntax, notation, axiom, sorry.
-/
import Derived.Test.YbulkbzsuFmtRows
import GoSem.ClaimSeven
namespace Go.Proofs.YbulkbzsuFmt
namespace Rows

/-- THE TOLD AND TIED CARD OF 'runlog.LawS3803AMatchesModel'. -/
def lawS3803AMatchesModelCard : Claim7 := { stood := { row := lawS3803AMatchesModelRow, standIns := [], harness := (true, "566c0c51d0987c52bff1fa2d8ad17cb9d01689b6b6555fa334ad2fca372e8fa8"), looks := true }, told := true, laidByText := true, laidKinds := [.data, .data, .data, .sentinel, .sentinel], laidTests := true, laidLooks := .later, goes := false }
def LawS3803AMatchesModelToldSaid : Prop := Claim7.holds Ybaf.pinned (.plain (OpenSpec.ofChange lawS3803AMatchesModelSpec)) lawS3803AMatchesModelCard
/-- ITS FALSE NEIGHBOUR. Refute it at one input. -/
def LawS3803AMatchesModelToldWrongFalsely : Prop := Claim7.holds Ybaf.pinned (.plain (OpenSpec.ofChange lawS3803AMatchesModelWrong)) lawS3803AMatchesModelCard

/-- THE TOLD AND TIED CARD OF 'runlog.LawS3803ARoundTrip'. -/
def lawS3803ARoundTripCard : Claim7 := { stood := { row := lawS3803ARoundTripRow, standIns := [], harness := (true, "566c0c51d0987c52bff1fa2d8ad17cb9d01689b6b6555fa334ad2fca372e8fa8"), looks := true }, told := true, laidByText := true, laidKinds := [.data, .data, .data, .sentinel, .sentinel], laidTests := true, laidLooks := .later, goes := false }
def LawS3803ARoundTripToldSaid : Prop := Claim7.holds Ybaf.pinned (.plain (OpenSpec.ofChange lawS3803ARoundTripSpec)) lawS3803ARoundTripCard
/-- ITS FALSE NEIGHBOUR. Refute it at one input. -/
def LawS3803ARoundTripToldWrongFalsely : Prop := Claim7.holds Ybaf.pinned (.plain (OpenSpec.ofChange lawS3803ARoundTripWrong)) lawS3803ARoundTripCard

/-- THE TOLD AND TIED CARD OF 'lamplight.LawS3803BBuilt'. -/
def lawS3803BBuiltCard : Claim7 := { stood := { row := lawS3803BBuiltRow, standIns := [], harness := (true, "566c0c51d0987c52bff1fa2d8ad17cb9d01689b6b6555fa334ad2fca372e8fa8"), looks := true }, told := true, laidByText := true, laidKinds := [.sentinel, .sentinel, .sentinel, .sentinel], laidTests := true, laidLooks := .later, goes := false }
def LawS3803BBuiltToldSaid : Prop := Claim7.holds Ybaf.pinned (.plain (OpenSpec.ofChange lawS3803BBuiltSpec)) lawS3803BBuiltCard
/-- ITS FALSE NEIGHBOUR. Refute it at one input. -/
def LawS3803BBuiltToldWrongFalsely : Prop := Claim7.holds Ybaf.pinned (.plain (OpenSpec.ofChange lawS3803BBuiltWrong)) lawS3803BBuiltCard

/-- THE TOLD AND TIED CARD OF 'lamplight.LawS3803BRaw'. -/
def lawS3803BRawCard : Claim7 := { stood := { row := lawS3803BRawRow, standIns := [], harness := (true, "566c0c51d0987c52bff1fa2d8ad17cb9d01689b6b6555fa334ad2fca372e8fa8"), looks := true }, told := true, laidByText := true, laidKinds := [.sentinel, .sentinel, .sentinel, .sentinel], laidTests := true, laidLooks := .later, goes := false }
def LawS3803BRawToldSaid : Prop := Claim7.holds Ybaf.pinned (.plain (OpenSpec.ofChange lawS3803BRawSpec)) lawS3803BRawCard
/-- ITS FALSE NEIGHBOUR. Refute it at one input. -/
def LawS3803BRawToldWrongFalsely : Prop := Claim7.holds Ybaf.pinned (.plain (OpenSpec.ofChange lawS3803BRawWrong)) lawS3803BRawCard
end Rows
end Go.Proofs.YbulkbzsuFmt
