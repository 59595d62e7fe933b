/-
  DERIVED. GIVEN WITH THE SEED: THE PROGRAM's TIES (one call each: nine closed facts by the kernel) AND EACH ROW's TIE, after the 31st guide's Derived/Test/Toyas{Tie, Card}.lean. No idea stands in it: it is a product of the set-up. Laid BY PROGRAM, IN A SANDBOX (cutbox-door.mjs). By AI agents, Wed Nov 11 2026. No macro, syntax, notation, axiom, sorry.
-/
import Derived.Test.YbulkecriDoorRows
import Derived.LaidByTextLater
import Derived.SevenTiedAt
import Derived.LaidSub
import Derived.LaidOnce
namespace Go.Proofs.YbulkecriDoor
open Go
set_option maxRecDepth 100000
theorem seatTie1 : Ybad.prog.laidByTextLater [("math/bits.deBruijn32tab", Rows.laid_math_bits_deBruijn32tab), ("math/bits.deBruijn64tab", Rows.laid_math_bits_deBruijn64tab), ("internal/strconv.uint64pow10", Rows.laid_internal_strconv_uint64pow10), ("example.com/radicand/radicand.nanConventions", Rows.laid_example_com_radicand_radicand_nanConventions), ("example.com/radicand/radicand.precisions", Rows.laid_example_com_radicand_radicand_precisions), ("example.com/radicand/radicand.roundingDirections", Rows.laid_example_com_radicand_radicand_roundingDirections)] [.data, .data, .data, .data, .data, .data] true :=
  Program.laidByTextLater_by_one 50 8 65 (by kernel_rfl) (by kernel_rfl) (by kernel_rfl) (by kernel_rfl) (by kernel_rfl) (by kernel_rfl) (fun _ _ => by kernel_rfl)
theorem noOwnUnsafe : Ybad.pinned.checked.prog.headLifts.contains "ownunsafe" = false := by kernel_rfl
theorem tie : Ybad.prog.laidByTextLater [("math/bits.deBruijn32tab", Rows.laid_math_bits_deBruijn32tab), ("math/bits.deBruijn64tab", Rows.laid_math_bits_deBruijn64tab), ("internal/strconv.uint64pow10", Rows.laid_internal_strconv_uint64pow10), ("example.com/radicand/radicand.roundingDirections", Rows.laid_example_com_radicand_radicand_roundingDirections)] [.data, .data, .data, .data] true :=
  Program.laidByTextLater.sub seatTie1 ["math/bits.deBruijn32tab", "math/bits.deBruijn64tab", "internal/strconv.uint64pow10", "example.com/radicand/radicand.roundingDirections"] (by kernel_rfl) (by kernel_rfl)
theorem lawS6456AWhole_row_tie : Rows.lawS6456AWholeRow.laidByTextAt .later Ybad.pinned [.data, .data, .data, .data] true :=
  OpenClaim.laidByTextAt_later rfl rfl tie noOwnUnsafe
theorem tie2 : Ybad.prog.laidByTextLater [("example.com/radicand/radicand.nanConventions", Rows.laid_example_com_radicand_radicand_nanConventions)] [.data] true :=
  Program.laidByTextLater.sub seatTie1 ["example.com/radicand/radicand.nanConventions"] (by kernel_rfl) (by kernel_rfl)
theorem lawS6456BWhole_row_tie : Rows.lawS6456BWholeRow.laidByTextAt .later Ybad.pinned [.data] true :=
  OpenClaim.laidByTextAt_later rfl rfl tie2 noOwnUnsafe
theorem tie3 : Ybad.prog.laidByTextLater [("math/bits.deBruijn32tab", Rows.laid_math_bits_deBruijn32tab), ("math/bits.deBruijn64tab", Rows.laid_math_bits_deBruijn64tab), ("internal/strconv.uint64pow10", Rows.laid_internal_strconv_uint64pow10), ("example.com/radicand/radicand.precisions", Rows.laid_example_com_radicand_radicand_precisions)] [.data, .data, .data, .data] true :=
  Program.laidByTextLater.sub seatTie1 ["math/bits.deBruijn32tab", "math/bits.deBruijn64tab", "internal/strconv.uint64pow10", "example.com/radicand/radicand.precisions"] (by kernel_rfl) (by kernel_rfl)
theorem lawS6456CWhole_row_tie : Rows.lawS6456CWholeRow.laidByTextAt .later Ybad.pinned [.data, .data, .data, .data] true :=
  OpenClaim.laidByTextAt_later rfl rfl tie3 noOwnUnsafe
end Go.Proofs.YbulkecriDoor
