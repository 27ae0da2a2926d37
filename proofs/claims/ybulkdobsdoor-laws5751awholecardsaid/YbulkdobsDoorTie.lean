/-
  DERIVED. GIVEN WITH THE SEED: THE PROGRAM's TIES (one call each: nine closed facts by the kernel) AND EACH ROW's TIE, after the 31st guide's Derived/Test/Toyas{Tie, Card}.lean. No idea stands in it: it is a product of the set-up. Laid BY PROGRAM, IN A SANDBOX (cutbox-door.mjs). By AI agents, Wed Nov 11 2026. No macro, syntax, notation, axiom, sorry.
-/
import Derived.Test.YbulkdobsDoorRows
import Derived.LaidByTextLater
import Derived.SevenTiedAt
import Derived.LaidSub
import Derived.LaidOnce
namespace Go.Proofs.YbulkdobsDoor
open Go
set_option maxRecDepth 100000
theorem seatTie1 : Ybad.prog.laidByTextLater [("math/bits.deBruijn32tab", Rows.laid_math_bits_deBruijn32tab), ("math/bits.deBruijn64tab", Rows.laid_math_bits_deBruijn64tab), ("internal/strconv.uint64pow10", Rows.laid_internal_strconv_uint64pow10), ("example.com/chronospan/chronospan.monthStarts", Rows.laid_example_com_chronospan_chronospan_monthStarts), ("example.com/chronospan/chronospan.durationUnits", Rows.laid_example_com_chronospan_chronospan_durationUnits)] [.data, .data, .data, .called, .widerDeep] true :=
  Program.laidByTextLater_by_one 468 8 65 (by kernel_rfl) (by kernel_rfl) (by kernel_rfl) (by kernel_rfl) (by kernel_rfl) (by kernel_rfl) (fun _ _ => by kernel_rfl)
theorem noOwnUnsafe : Ybad.pinned.checked.prog.headLifts.contains "ownunsafe" = false := by kernel_rfl
theorem tie : Ybad.prog.laidByTextLater [("math/bits.deBruijn32tab", Rows.laid_math_bits_deBruijn32tab), ("math/bits.deBruijn64tab", Rows.laid_math_bits_deBruijn64tab), ("internal/strconv.uint64pow10", Rows.laid_internal_strconv_uint64pow10), ("example.com/chronospan/chronospan.durationUnits", Rows.laid_example_com_chronospan_chronospan_durationUnits)] [.data, .data, .data, .widerDeep] true :=
  Program.laidByTextLater.sub seatTie1 ["math/bits.deBruijn32tab", "math/bits.deBruijn64tab", "internal/strconv.uint64pow10", "example.com/chronospan/chronospan.durationUnits"] (by kernel_rfl) (by kernel_rfl)
theorem lawS5751AWhole_row_tie : Rows.lawS5751AWholeRow.laidByTextAt .later Ybad.pinned [.data, .data, .data, .widerDeep] true :=
  OpenClaim.laidByTextAt_later rfl rfl tie noOwnUnsafe
theorem tie2 : Ybad.prog.laidByTextLater [("example.com/chronospan/chronospan.monthStarts", Rows.laid_example_com_chronospan_chronospan_monthStarts)] [.called] true :=
  Program.laidByTextLater.sub seatTie1 ["example.com/chronospan/chronospan.monthStarts"] (by kernel_rfl) (by kernel_rfl)
theorem lawS5751CWhole_row_tie : Rows.lawS5751CWholeRow.laidByTextAt .later Ybad.pinned [.called] true :=
  OpenClaim.laidByTextAt_later rfl rfl tie2 noOwnUnsafe
end Go.Proofs.YbulkdobsDoor
