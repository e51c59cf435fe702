/-
  DERIVED. GIVEN WITH THE SEED: THE PROGRAM's TIES (one call each: nine closed facts by the kernel) AND EACH ROW's TIE, after the 31st guide's Derived/Test/Toyas{Tie, Card}.lean. No idea stands in it: it is a product of the set-up. Laid BY PROGRAM, IN A SANDBOX (cutbox-door.mjs). By AI agents, Wed Nov 11 2026. No macro, syntax, notation, axiom, sorry.
-/
import Derived.Test.YbulkbzsuFmtRows
import Derived.LaidByTextLater
import Derived.SevenTiedAt
import Derived.LaidSub
import Derived.LaidOnce
namespace Go.Proofs.YbulkbzsuFmt
open Go
set_option maxRecDepth 100000
theorem seatTie1 : Ybaf.prog.laidByTextLater [("math/bits.deBruijn32tab", Rows.laid_math_bits_deBruijn32tab), ("math/bits.deBruijn64tab", Rows.laid_math_bits_deBruijn64tab), ("internal/strconv.uint64pow10", Rows.laid_internal_strconv_uint64pow10), ("strconv.ErrRange", Rows.laid_strconv_ErrRange), ("strconv.ErrSyntax", Rows.laid_strconv_ErrSyntax), ("example.com/lamplight/lamplight/internal/varint.ErrShort", Rows.laid_example_com_lamplight_lamplight_internal_varint_ErrShort), ("example.com/lamplight/lamplight/internal/varint.ErrOverflow", Rows.laid_example_com_lamplight_lamplight_internal_varint_ErrOverflow), ("example.com/lamplight/lamplight/internal/varint.ErrLong", Rows.laid_example_com_lamplight_lamplight_internal_varint_ErrLong), ("example.com/lamplight/lamplight.ErrBadStamp", Rows.laid_example_com_lamplight_lamplight_ErrBadStamp)] [.data, .data, .data, .sentinel, .sentinel, .sentinel, .sentinel, .sentinel, .sentinel] true :=
  Program.laidByTextLater_by_one 148 8 65 (by kernel_rfl) (by kernel_rfl) (by kernel_rfl) (by kernel_rfl) (by kernel_rfl) (by kernel_rfl) (fun _ _ => by kernel_rfl)
theorem noOwnUnsafe : Ybaf.pinned.checked.prog.headLifts.contains "ownunsafe" = false := by kernel_rfl
theorem tie : Ybaf.prog.laidByTextLater [("math/bits.deBruijn32tab", Rows.laid_math_bits_deBruijn32tab), ("math/bits.deBruijn64tab", Rows.laid_math_bits_deBruijn64tab), ("internal/strconv.uint64pow10", Rows.laid_internal_strconv_uint64pow10), ("strconv.ErrRange", Rows.laid_strconv_ErrRange), ("strconv.ErrSyntax", Rows.laid_strconv_ErrSyntax)] [.data, .data, .data, .sentinel, .sentinel] true :=
  Program.laidByTextLater.sub seatTie1 ["math/bits.deBruijn32tab", "math/bits.deBruijn64tab", "internal/strconv.uint64pow10", "strconv.ErrRange", "strconv.ErrSyntax"] (by kernel_rfl) (by kernel_rfl)
theorem lawS3803AMatchesModel_row_tie : Rows.lawS3803AMatchesModelRow.laidByTextAt .later Ybaf.pinned [.data, .data, .data, .sentinel, .sentinel] true :=
  OpenClaim.laidByTextAt_later rfl rfl tie noOwnUnsafe
theorem lawS3803ARoundTrip_row_tie : Rows.lawS3803ARoundTripRow.laidByTextAt .later Ybaf.pinned [.data, .data, .data, .sentinel, .sentinel] true :=
  OpenClaim.laidByTextAt_later rfl rfl tie noOwnUnsafe
theorem tie2 : Ybaf.prog.laidByTextLater [("example.com/lamplight/lamplight/internal/varint.ErrShort", Rows.laid_example_com_lamplight_lamplight_internal_varint_ErrShort), ("example.com/lamplight/lamplight/internal/varint.ErrOverflow", Rows.laid_example_com_lamplight_lamplight_internal_varint_ErrOverflow), ("example.com/lamplight/lamplight/internal/varint.ErrLong", Rows.laid_example_com_lamplight_lamplight_internal_varint_ErrLong), ("example.com/lamplight/lamplight.ErrBadStamp", Rows.laid_example_com_lamplight_lamplight_ErrBadStamp)] [.sentinel, .sentinel, .sentinel, .sentinel] true :=
  Program.laidByTextLater.sub seatTie1 ["example.com/lamplight/lamplight/internal/varint.ErrShort", "example.com/lamplight/lamplight/internal/varint.ErrOverflow", "example.com/lamplight/lamplight/internal/varint.ErrLong", "example.com/lamplight/lamplight.ErrBadStamp"] (by kernel_rfl) (by kernel_rfl)
theorem lawS3803BBuilt_row_tie : Rows.lawS3803BBuiltRow.laidByTextAt .later Ybaf.pinned [.sentinel, .sentinel, .sentinel, .sentinel] true :=
  OpenClaim.laidByTextAt_later rfl rfl tie2 noOwnUnsafe
theorem lawS3803BRaw_row_tie : Rows.lawS3803BRawRow.laidByTextAt .later Ybaf.pinned [.sentinel, .sentinel, .sentinel, .sentinel] true :=
  OpenClaim.laidByTextAt_later rfl rfl tie2 noOwnUnsafe
end Go.Proofs.YbulkbzsuFmt
