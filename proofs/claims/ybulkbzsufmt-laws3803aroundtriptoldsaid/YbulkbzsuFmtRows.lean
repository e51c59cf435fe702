/-
  NARROWER THAN 'FOR EVERY INPUT', by the rows' own cells (each row's printed sentence says how): LawS3803AMatchesModel: laid · LawS3803ARoundTrip: laid · LawS3803BBuilt: ifaces, laid · LawS3803BRaw: ifaces, laid.
  DERIVED. THE GIVEN ROWS OF THIS SEAT. 4 by the template 'for every input the law returns true; each argument reads behind the call as it read before'; 0 by the template 'total and deterministic' (their statements: YbulkbzsuFmtTotals.lean).
  GIVEN WITH THE SEED: the statements are not yours to turn. If you find one false, say at which input.
  Laid BY PROGRAM, IN A SANDBOX (cutbox-rows.mjs): the forced cells as the released guide's own fill.sh prints them over the translation 98ae6dbc6662b186… (all of the seat's roots in one cut). By AI agents, Wed Nov 11 2026. No macro, syntax, notation, axiom, sorry.
-/
import Derived.Test.YbulkbzsuFmtChecked
import GoSem.Claim
import GoSem.ClaimJoined
import GoSem.ClaimMapViews
import Derived.JoinedTies
import Derived.KernelRfl
namespace Go.Proofs.YbulkbzsuFmt
/- THE CELL 'sum', in the pinned program and in every row, IS THE sha256 OF THE DUMP (.gsa) THAT YbulkbzsuFmtProg.lean LOADS. Nothing in Lean hashes anything: it is a label: what it is worth is what the hold of that sum in a sandbox is worth. -/
noncomputable def Ybaf.pinned : Pinned := { name := "ybulkbzsufmt", sum := "98ae6dbc6662b186059c85033c6af9be63b428c4f680f559b9789713b8571959", checked := Ybaf.checked }
namespace Rows
def none {H : Type} : Left H := { results := [], args := [] }

/- WHAT THE LISTED PACKAGE-LEVEL VARIABLES READ AS WHEN THE CALL BEGINS. Each datum BY PROGRAM (the guide's laid-datum.mjs) off the statement by which the dump's own 'gosem.cut.vars' lays the variable. In a bare row this is a premise. The card (YbulkbzsuFmtCards.lean) ties it to the program's text. -/
def laid_math_bits_deBruijn32tab {H : Type} : DataW H := .agg [.lit (.int .u8 0), .lit (.int .u8 1), .lit (.int .u8 28), .lit (.int .u8 2), .lit (.int .u8 29), .lit (.int .u8 14), .lit (.int .u8 24), .lit (.int .u8 3), .lit (.int .u8 30), .lit (.int .u8 22), .lit (.int .u8 20), .lit (.int .u8 15), .lit (.int .u8 25), .lit (.int .u8 17), .lit (.int .u8 4), .lit (.int .u8 8), .lit (.int .u8 31), .lit (.int .u8 27), .lit (.int .u8 13), .lit (.int .u8 23), .lit (.int .u8 21), .lit (.int .u8 19), .lit (.int .u8 16), .lit (.int .u8 7), .lit (.int .u8 26), .lit (.int .u8 12), .lit (.int .u8 18), .lit (.int .u8 6), .lit (.int .u8 11), .lit (.int .u8 5), .lit (.int .u8 10), .lit (.int .u8 9)]
def laid_math_bits_deBruijn64tab {H : Type} : DataW H := .agg [.lit (.int .u8 0), .lit (.int .u8 1), .lit (.int .u8 56), .lit (.int .u8 2), .lit (.int .u8 57), .lit (.int .u8 49), .lit (.int .u8 28), .lit (.int .u8 3), .lit (.int .u8 61), .lit (.int .u8 58), .lit (.int .u8 42), .lit (.int .u8 50), .lit (.int .u8 38), .lit (.int .u8 29), .lit (.int .u8 17), .lit (.int .u8 4), .lit (.int .u8 62), .lit (.int .u8 47), .lit (.int .u8 59), .lit (.int .u8 36), .lit (.int .u8 45), .lit (.int .u8 43), .lit (.int .u8 51), .lit (.int .u8 22), .lit (.int .u8 53), .lit (.int .u8 39), .lit (.int .u8 33), .lit (.int .u8 30), .lit (.int .u8 24), .lit (.int .u8 18), .lit (.int .u8 12), .lit (.int .u8 5), .lit (.int .u8 63), .lit (.int .u8 55), .lit (.int .u8 48), .lit (.int .u8 27), .lit (.int .u8 60), .lit (.int .u8 41), .lit (.int .u8 37), .lit (.int .u8 16), .lit (.int .u8 46), .lit (.int .u8 35), .lit (.int .u8 44), .lit (.int .u8 21), .lit (.int .u8 52), .lit (.int .u8 32), .lit (.int .u8 23), .lit (.int .u8 11), .lit (.int .u8 54), .lit (.int .u8 26), .lit (.int .u8 40), .lit (.int .u8 15), .lit (.int .u8 34), .lit (.int .u8 20), .lit (.int .u8 31), .lit (.int .u8 10), .lit (.int .u8 25), .lit (.int .u8 14), .lit (.int .u8 19), .lit (.int .u8 9), .lit (.int .u8 13), .lit (.int .u8 8), .lit (.int .u8 7), .lit (.int .u8 6)]
def laid_internal_strconv_uint64pow10 {H : Type} : DataW H := .agg [.lit (.int .u64 1), .lit (.int .u64 10), .lit (.int .u64 100), .lit (.int .u64 1000), .lit (.int .u64 10000), .lit (.int .u64 100000), .lit (.int .u64 1000000), .lit (.int .u64 10000000), .lit (.int .u64 100000000), .lit (.int .u64 1000000000), .lit (.int .u64 10000000000), .lit (.int .u64 100000000000), .lit (.int .u64 1000000000000), .lit (.int .u64 10000000000000), .lit (.int .u64 100000000000000), .lit (.int .u64 1000000000000000), .lit (.int .u64 10000000000000000), .lit (.int .u64 100000000000000000), .lit (.int .u64 1000000000000000000), .lit (.int .u64 10000000000000000000)]
def laid_strconv_ErrRange {H : Type} : DataW H := .iface "*errors.errorString" (.ptr (.agg [.lit (.string [118, 97, 108, 117, 101, 32, 111, 117, 116, 32, 111, 102, 32, 114, 97, 110, 103, 101])]))
def laid_strconv_ErrSyntax {H : Type} : DataW H := .iface "*errors.errorString" (.ptr (.agg [.lit (.string [105, 110, 118, 97, 108, 105, 100, 32, 115, 121, 110, 116, 97, 120])]))
def laid_example_com_lamplight_lamplight_internal_varint_ErrShort {H : Type} : DataW H := .iface "*errors.errorString" (.ptr (.agg [.lit (.string [105, 115, 32, 99, 117, 116, 32, 115, 104, 111, 114, 116])]))
def laid_example_com_lamplight_lamplight_internal_varint_ErrOverflow {H : Type} : DataW H := .iface "*errors.errorString" (.ptr (.agg [.lit (.string [111, 118, 101, 114, 102, 108, 111, 119, 115, 32, 54, 52, 32, 98, 105, 116, 115])]))
def laid_example_com_lamplight_lamplight_internal_varint_ErrLong {H : Type} : DataW H := .iface "*errors.errorString" (.ptr (.agg [.lit (.string [105, 115, 32, 110, 111, 116, 32, 105, 110, 32, 105, 116, 115, 32, 115, 104, 111, 114, 116, 101, 115, 116, 32, 102, 111, 114, 109])]))
def laid_example_com_lamplight_lamplight_ErrBadStamp {H : Type} : DataW H := .iface "*errors.errorString" (.ptr (.agg [.lit (.string [108, 97, 109, 112, 108, 105, 103, 104, 116, 58, 32, 98, 97, 100, 32, 115, 116, 97, 109, 112])]))

/-- 'runlog.LawS3803AMatchesModel': WHATEVER THE INPUT: true; the input reads as it did. -/
def lawS3803AMatchesModelSpec : ChangeSpec := { name := "lawS3803AMatchesModel", fn := fun _ => fun
  | [d] => { results := [.lit (.bool true)], args := [d] }
  | _ => none }
def lawS3803AMatchesModelRow : OpenClaim := { program := "ybulkbzsufmt", sum := "98ae6dbc6662b186059c85033c6af9be63b428c4f680f559b9789713b8571959", func := "example.com/lamplight/lamplight/internal/runlog.LawS3803AMatchesModel", spec := "lawS3803AMatchesModel", stops := ["fmt.errorf, its operands' methods called", "fmt.Sprintf, its operands' methods called"], inPlace := ["fmt.errorf"], unfollowed := true, recurses := true, named := ["strconv.ErrSyntax", "strconv.ErrRange", "internal/strconv.uint64pow10", "math/bits.deBruijn32tab", "math/bits.deBruijn64tab"], apart := false, laid := [("math/bits.deBruijn32tab", laid_math_bits_deBruijn32tab), ("math/bits.deBruijn64tab", laid_math_bits_deBruijn64tab), ("internal/strconv.uint64pow10", laid_internal_strconv_uint64pow10), ("strconv.ErrRange", laid_strconv_ErrRange), ("strconv.ErrSyntax", laid_strconv_ErrSyntax)] }
/-- NO THEOREM (fmt's text is open here; it may be false): for the released tool's asking of the row's closed facts alone. THE STATEMENT IS 'LawS3803AMatchesModelToldSaid' (YbulkbzsuFmtCards.lean). -/
def LawS3803AMatchesModelFormAsk : Prop := lawS3803AMatchesModelRow.holds Ybaf.pinned (OpenSpec.ofChange lawS3803AMatchesModelSpec)

/-- ITS FALSE NEIGHBOUR: 'it returns false'. Refute it at one input. -/
def lawS3803AMatchesModelWrong : ChangeSpec := { name := "lawS3803AMatchesModel", fn := fun _ => fun
  | [d] => { results := [.lit (.bool false)], args := [d] }
  | _ => none }
def LawS3803AMatchesModelWrongFormAsk : Prop := lawS3803AMatchesModelRow.holds Ybaf.pinned (OpenSpec.ofChange lawS3803AMatchesModelWrong)

/-- 'runlog.LawS3803ARoundTrip': WHATEVER THE INPUT: true; the input reads as it did. -/
def lawS3803ARoundTripSpec : ChangeSpec := { name := "lawS3803ARoundTrip", fn := fun _ => fun
  | [d1, d2, d3, d4] => { results := [.lit (.bool true)], args := [d1, d2, d3, d4] }
  | _ => none }
def lawS3803ARoundTripRow : OpenClaim := { program := "ybulkbzsufmt", sum := "98ae6dbc6662b186059c85033c6af9be63b428c4f680f559b9789713b8571959", func := "example.com/lamplight/lamplight/internal/runlog.LawS3803ARoundTrip", spec := "lawS3803ARoundTrip", stops := ["fmt.errorf, its operands' methods called", "fmt.Sprintf, its operands' methods called"], inPlace := ["internal/abi.NoEscape", "internal/bytealg.MakeNoZero", "fmt.errorf"], unfollowed := true, recurses := true, named := ["internal/strconv.uint64pow10", "math/bits.deBruijn32tab", "math/bits.deBruijn64tab", "strconv.ErrSyntax", "strconv.ErrRange"], apart := false, laid := [("math/bits.deBruijn32tab", laid_math_bits_deBruijn32tab), ("math/bits.deBruijn64tab", laid_math_bits_deBruijn64tab), ("internal/strconv.uint64pow10", laid_internal_strconv_uint64pow10), ("strconv.ErrRange", laid_strconv_ErrRange), ("strconv.ErrSyntax", laid_strconv_ErrSyntax)] }
/-- NO THEOREM (fmt's text is open here; it may be false): for the released tool's asking of the row's closed facts alone. THE STATEMENT IS 'LawS3803ARoundTripToldSaid' (YbulkbzsuFmtCards.lean). -/
def LawS3803ARoundTripFormAsk : Prop := lawS3803ARoundTripRow.holds Ybaf.pinned (OpenSpec.ofChange lawS3803ARoundTripSpec)

/-- ITS FALSE NEIGHBOUR: 'it returns false'. Refute it at one input. -/
def lawS3803ARoundTripWrong : ChangeSpec := { name := "lawS3803ARoundTrip", fn := fun _ => fun
  | [d1, d2, d3, d4] => { results := [.lit (.bool false)], args := [d1, d2, d3, d4] }
  | _ => none }
def LawS3803ARoundTripWrongFormAsk : Prop := lawS3803ARoundTripRow.holds Ybaf.pinned (OpenSpec.ofChange lawS3803ARoundTripWrong)

/-- 'lamplight.LawS3803BBuilt': WHATEVER THE INPUT: true; the input reads as it did. -/
def lawS3803BBuiltSpec : ChangeSpec := { name := "lawS3803BBuilt", vars := ["example.com/lamplight/lamplight.ErrBadStamp", "example.com/lamplight/lamplight/internal/varint.ErrShort", "example.com/lamplight/lamplight/internal/varint.ErrOverflow", "example.com/lamplight/lamplight/internal/varint.ErrLong"], fn := fun _ => fun
  | [d1, d2, d3, d4, d5, d6, d7, d8, g1, g2, g3, g4] => { results := [.lit (.bool true)], args := [d1, d2, d3, d4, d5, d6, d7, d8], vars := [g1, g2, g3, g4] }
  | _ => none }
def lawS3803BBuiltRow : OpenClaim := { program := "ybulkbzsufmt", sum := "98ae6dbc6662b186059c85033c6af9be63b428c4f680f559b9789713b8571959", func := "example.com/lamplight/lamplight.LawS3803BBuilt", spec := "lawS3803BBuilt", stops := ["fmt.errorf, its operands' methods called", "fmt.Sprintf, its operands' methods called"], inPlace := ["fmt.Sprintf", "fmt.errorf", "internal/reflectlite.TypeOf"], unfollowed := true, recurses := true, named := ["example.com/lamplight/lamplight.ErrBadStamp", "example.com/lamplight/lamplight/internal/varint.ErrShort", "example.com/lamplight/lamplight/internal/varint.ErrOverflow", "example.com/lamplight/lamplight/internal/varint.ErrLong"], ifaces := true, apart := false, laid := [("example.com/lamplight/lamplight/internal/varint.ErrShort", laid_example_com_lamplight_lamplight_internal_varint_ErrShort), ("example.com/lamplight/lamplight/internal/varint.ErrOverflow", laid_example_com_lamplight_lamplight_internal_varint_ErrOverflow), ("example.com/lamplight/lamplight/internal/varint.ErrLong", laid_example_com_lamplight_lamplight_internal_varint_ErrLong), ("example.com/lamplight/lamplight.ErrBadStamp", laid_example_com_lamplight_lamplight_ErrBadStamp)] }
/-- NO THEOREM (fmt's text is open here; it may be false): for the released tool's asking of the row's closed facts alone. THE STATEMENT IS 'LawS3803BBuiltToldSaid' (YbulkbzsuFmtCards.lean). -/
def LawS3803BBuiltFormAsk : Prop := lawS3803BBuiltRow.holds Ybaf.pinned (OpenSpec.ofChange lawS3803BBuiltSpec)

/-- ITS FALSE NEIGHBOUR: 'it returns false'. Refute it at one input. -/
def lawS3803BBuiltWrong : ChangeSpec := { name := "lawS3803BBuilt", vars := ["example.com/lamplight/lamplight.ErrBadStamp", "example.com/lamplight/lamplight/internal/varint.ErrShort", "example.com/lamplight/lamplight/internal/varint.ErrOverflow", "example.com/lamplight/lamplight/internal/varint.ErrLong"], fn := fun _ => fun
  | [d1, d2, d3, d4, d5, d6, d7, d8, g1, g2, g3, g4] => { results := [.lit (.bool false)], args := [d1, d2, d3, d4, d5, d6, d7, d8], vars := [g1, g2, g3, g4] }
  | _ => none }
def LawS3803BBuiltWrongFormAsk : Prop := lawS3803BBuiltRow.holds Ybaf.pinned (OpenSpec.ofChange lawS3803BBuiltWrong)

/-- 'lamplight.LawS3803BRaw': WHATEVER THE INPUT: true; the input reads as it did. -/
def lawS3803BRawSpec : ChangeSpec := { name := "lawS3803BRaw", vars := ["example.com/lamplight/lamplight.ErrBadStamp", "example.com/lamplight/lamplight/internal/varint.ErrShort", "example.com/lamplight/lamplight/internal/varint.ErrOverflow", "example.com/lamplight/lamplight/internal/varint.ErrLong"], fn := fun _ => fun
  | [d1, d2, d3, g1, g2, g3, g4] => { results := [.lit (.bool true)], args := [d1, d2, d3], vars := [g1, g2, g3, g4] }
  | _ => none }
def lawS3803BRawRow : OpenClaim := { program := "ybulkbzsufmt", sum := "98ae6dbc6662b186059c85033c6af9be63b428c4f680f559b9789713b8571959", func := "example.com/lamplight/lamplight.LawS3803BRaw", spec := "lawS3803BRaw", stops := ["fmt.errorf, its operands' methods called", "fmt.Sprintf, its operands' methods called"], inPlace := ["fmt.Sprintf", "fmt.errorf", "internal/reflectlite.TypeOf"], unfollowed := true, recurses := true, named := ["example.com/lamplight/lamplight.ErrBadStamp", "example.com/lamplight/lamplight/internal/varint.ErrShort", "example.com/lamplight/lamplight/internal/varint.ErrOverflow", "example.com/lamplight/lamplight/internal/varint.ErrLong"], ifaces := true, apart := false, laid := [("example.com/lamplight/lamplight/internal/varint.ErrShort", laid_example_com_lamplight_lamplight_internal_varint_ErrShort), ("example.com/lamplight/lamplight/internal/varint.ErrOverflow", laid_example_com_lamplight_lamplight_internal_varint_ErrOverflow), ("example.com/lamplight/lamplight/internal/varint.ErrLong", laid_example_com_lamplight_lamplight_internal_varint_ErrLong), ("example.com/lamplight/lamplight.ErrBadStamp", laid_example_com_lamplight_lamplight_ErrBadStamp)] }
/-- NO THEOREM (fmt's text is open here; it may be false): for the released tool's asking of the row's closed facts alone. THE STATEMENT IS 'LawS3803BRawToldSaid' (YbulkbzsuFmtCards.lean). -/
def LawS3803BRawFormAsk : Prop := lawS3803BRawRow.holds Ybaf.pinned (OpenSpec.ofChange lawS3803BRawSpec)

/-- ITS FALSE NEIGHBOUR: 'it returns false'. Refute it at one input. -/
def lawS3803BRawWrong : ChangeSpec := { name := "lawS3803BRaw", vars := ["example.com/lamplight/lamplight.ErrBadStamp", "example.com/lamplight/lamplight/internal/varint.ErrShort", "example.com/lamplight/lamplight/internal/varint.ErrOverflow", "example.com/lamplight/lamplight/internal/varint.ErrLong"], fn := fun _ => fun
  | [d1, d2, d3, g1, g2, g3, g4] => { results := [.lit (.bool false)], args := [d1, d2, d3], vars := [g1, g2, g3, g4] }
  | _ => none }
def LawS3803BRawWrongFormAsk : Prop := lawS3803BRawRow.holds Ybaf.pinned (OpenSpec.ofChange lawS3803BRawWrong)

end Rows
end Go.Proofs.YbulkbzsuFmt
