/-
  NARROWER THAN 'FOR EVERY INPUT', by the rows' own cells (each row's printed sentence says how): LawS5751AWhole: laid · LawS5751CWhole: laid.
  DERIVED. THE GIVEN ROWS OF THIS SEAT. 2 by the template 'for every input the law returns true; each argument reads behind the call as it read before'; 0 by the template 'total and deterministic' (their statements: YbulkdobsDoorTotals.lean).
  GIVEN WITH THE SEED: the statements are not yours to turn. If you find one false, say at which input.
  Laid BY PROGRAM, IN A SANDBOX (cutbox-rows.mjs): the forced cells as the released guide's own fill.sh prints them over the translation 8a264437f57177cc… (all of the seat's roots in one cut). By AI agents, Wed Nov 11 2026. No macro, syntax, notation, axiom, sorry.
-/
import Derived.Test.YbulkdobsDoorChecked
import GoSem.Claim
import GoSem.ClaimJoined
import GoSem.ClaimMapViews
import Derived.JoinedTies
import Derived.KernelRfl
namespace Go.Proofs.YbulkdobsDoor
/- THE CELL 'sum', in the pinned program and in every row, IS THE sha256 OF THE DUMP (.gsa) THAT YbulkdobsDoorProg.lean LOADS. Nothing in Lean hashes anything: it is a label: what it is worth is what the hold of that sum in a sandbox is worth. -/
noncomputable def Ybad.pinned : Pinned := { name := "ybulkdobsdoor", sum := "8a264437f57177cca67a3711991e6a64466383e4cb51463615ac85cfd898dcf7", checked := Ybad.checked }
namespace Rows
def none {H : Type} : Left H := { results := [], args := [] }

/- WHAT THE LISTED PACKAGE-LEVEL VARIABLES READ AS WHEN THE CALL BEGINS. Each datum BY PROGRAM (the guide's laid-datum.mjs) off the statement by which the dump's own 'gosem.cut.vars' lays the variable. In a bare row this is a premise. The card (YbulkdobsDoorCards.lean) ties it to the program's text. -/
def laid_math_bits_deBruijn32tab {H : Type} : DataW H := .agg [.lit (.int .u8 0), .lit (.int .u8 1), .lit (.int .u8 28), .lit (.int .u8 2), .lit (.int .u8 29), .lit (.int .u8 14), .lit (.int .u8 24), .lit (.int .u8 3), .lit (.int .u8 30), .lit (.int .u8 22), .lit (.int .u8 20), .lit (.int .u8 15), .lit (.int .u8 25), .lit (.int .u8 17), .lit (.int .u8 4), .lit (.int .u8 8), .lit (.int .u8 31), .lit (.int .u8 27), .lit (.int .u8 13), .lit (.int .u8 23), .lit (.int .u8 21), .lit (.int .u8 19), .lit (.int .u8 16), .lit (.int .u8 7), .lit (.int .u8 26), .lit (.int .u8 12), .lit (.int .u8 18), .lit (.int .u8 6), .lit (.int .u8 11), .lit (.int .u8 5), .lit (.int .u8 10), .lit (.int .u8 9)]
def laid_math_bits_deBruijn64tab {H : Type} : DataW H := .agg [.lit (.int .u8 0), .lit (.int .u8 1), .lit (.int .u8 56), .lit (.int .u8 2), .lit (.int .u8 57), .lit (.int .u8 49), .lit (.int .u8 28), .lit (.int .u8 3), .lit (.int .u8 61), .lit (.int .u8 58), .lit (.int .u8 42), .lit (.int .u8 50), .lit (.int .u8 38), .lit (.int .u8 29), .lit (.int .u8 17), .lit (.int .u8 4), .lit (.int .u8 62), .lit (.int .u8 47), .lit (.int .u8 59), .lit (.int .u8 36), .lit (.int .u8 45), .lit (.int .u8 43), .lit (.int .u8 51), .lit (.int .u8 22), .lit (.int .u8 53), .lit (.int .u8 39), .lit (.int .u8 33), .lit (.int .u8 30), .lit (.int .u8 24), .lit (.int .u8 18), .lit (.int .u8 12), .lit (.int .u8 5), .lit (.int .u8 63), .lit (.int .u8 55), .lit (.int .u8 48), .lit (.int .u8 27), .lit (.int .u8 60), .lit (.int .u8 41), .lit (.int .u8 37), .lit (.int .u8 16), .lit (.int .u8 46), .lit (.int .u8 35), .lit (.int .u8 44), .lit (.int .u8 21), .lit (.int .u8 52), .lit (.int .u8 32), .lit (.int .u8 23), .lit (.int .u8 11), .lit (.int .u8 54), .lit (.int .u8 26), .lit (.int .u8 40), .lit (.int .u8 15), .lit (.int .u8 34), .lit (.int .u8 20), .lit (.int .u8 31), .lit (.int .u8 10), .lit (.int .u8 25), .lit (.int .u8 14), .lit (.int .u8 19), .lit (.int .u8 9), .lit (.int .u8 13), .lit (.int .u8 8), .lit (.int .u8 7), .lit (.int .u8 6)]
def laid_internal_strconv_uint64pow10 {H : Type} : DataW H := .agg [.lit (.int .u64 1), .lit (.int .u64 10), .lit (.int .u64 100), .lit (.int .u64 1000), .lit (.int .u64 10000), .lit (.int .u64 100000), .lit (.int .u64 1000000), .lit (.int .u64 10000000), .lit (.int .u64 100000000), .lit (.int .u64 1000000000), .lit (.int .u64 10000000000), .lit (.int .u64 100000000000), .lit (.int .u64 1000000000000), .lit (.int .u64 10000000000000), .lit (.int .u64 100000000000000), .lit (.int .u64 1000000000000000), .lit (.int .u64 10000000000000000), .lit (.int .u64 100000000000000000), .lit (.int .u64 1000000000000000000), .lit (.int .u64 10000000000000000000)]
def laid_example_com_chronospan_chronospan_durationUnits {H : Type} : DataW H := .agg [.agg [.lit (.int .u8 89), .lit (.bool false), .lit (.bool false), .lit (.int .i64 12), .lit (.int .i64 999999999), .lit (.bool true)], .agg [.lit (.int .u8 77), .lit (.bool false), .lit (.bool false), .lit (.int .i64 1), .lit (.int .i64 11999999999), .lit (.bool true)], .agg [.lit (.int .u8 87), .lit (.bool true), .lit (.bool false), .lit (.int .i64 604800000000000), .lit (.int .i64 142857142), .lit (.bool false)], .agg [.lit (.int .u8 68), .lit (.bool true), .lit (.bool false), .lit (.int .i64 86400000000000), .lit (.int .i64 999999999), .lit (.bool true)], .agg [.lit (.int .u8 72), .lit (.bool true), .lit (.bool true), .lit (.int .i64 3600000000000), .lit (.int .i64 23999999999), .lit (.bool true)], .agg [.lit (.int .u8 77), .lit (.bool true), .lit (.bool true), .lit (.int .i64 60000000000), .lit (.int .i64 1439999999999), .lit (.bool true)], .agg [.lit (.int .u8 83), .lit (.bool true), .lit (.bool true), .lit (.int .i64 1000000000), .lit (.int .i64 86399999999999), .lit (.bool true)]]
def laid_example_com_chronospan_chronospan_monthStarts {H : Type} : DataW H := .agg [.lit (.int .i64 0), .lit (.int .i64 31), .lit (.int .i64 59), .lit (.int .i64 90), .lit (.int .i64 120), .lit (.int .i64 151), .lit (.int .i64 181), .lit (.int .i64 212), .lit (.int .i64 243), .lit (.int .i64 273), .lit (.int .i64 304), .lit (.int .i64 334), .lit (.int .i64 365)]

/-- 'chronospan.LawS5751AWhole': WHATEVER THE INPUT: true; the input reads as it did. -/
def lawS5751AWholeSpec : ChangeSpec := { name := "lawS5751AWhole", vars := ["example.com/chronospan/chronospan.durationUnits"], fn := fun _ => fun
  | [d1, d2, d3, g1] => { results := [.lit (.bool true)], args := [d1, d2, d3], vars := [g1] }
  | _ => none }
def lawS5751AWholeRow : OpenClaim := { program := "ybulkdobsdoor", sum := "8a264437f57177cca67a3711991e6a64466383e4cb51463615ac85cfd898dcf7", func := "example.com/chronospan/chronospan.LawS5751AWhole", spec := "lawS5751AWhole", named := ["example.com/chronospan/chronospan.durationUnits", "internal/strconv.uint64pow10", "math/bits.deBruijn32tab", "math/bits.deBruijn64tab"], apart := false, laid := [("math/bits.deBruijn32tab", laid_math_bits_deBruijn32tab), ("math/bits.deBruijn64tab", laid_math_bits_deBruijn64tab), ("internal/strconv.uint64pow10", laid_internal_strconv_uint64pow10), ("example.com/chronospan/chronospan.durationUnits", laid_example_com_chronospan_chronospan_durationUnits)] }
def LawS5751AWholeSaid : Prop := lawS5751AWholeRow.holds Ybad.pinned (OpenSpec.ofChange lawS5751AWholeSpec)

/-- ITS FALSE NEIGHBOUR: 'it returns false'. Refute it at one input. -/
def lawS5751AWholeWrong : ChangeSpec := { name := "lawS5751AWhole", vars := ["example.com/chronospan/chronospan.durationUnits"], fn := fun _ => fun
  | [d1, d2, d3, g1] => { results := [.lit (.bool false)], args := [d1, d2, d3], vars := [g1] }
  | _ => none }
def LawS5751AWholeWrongFalsely : Prop := lawS5751AWholeRow.holds Ybad.pinned (OpenSpec.ofChange lawS5751AWholeWrong)

/-- 'chronospan.LawS5751CWhole': WHATEVER THE INPUT: true; the input reads as it did. -/
def lawS5751CWholeSpec : ChangeSpec := { name := "lawS5751CWhole", vars := ["example.com/chronospan/chronospan.monthStarts"], fn := fun _ => fun
  | [d1, d2, g1] => { results := [.lit (.bool true)], args := [d1, d2], vars := [g1] }
  | _ => none }
def lawS5751CWholeRow : OpenClaim := { program := "ybulkdobsdoor", sum := "8a264437f57177cca67a3711991e6a64466383e4cb51463615ac85cfd898dcf7", func := "example.com/chronospan/chronospan.LawS5751CWhole", spec := "lawS5751CWhole", named := ["example.com/chronospan/chronospan.monthStarts"], apart := false, laid := [("example.com/chronospan/chronospan.monthStarts", laid_example_com_chronospan_chronospan_monthStarts)] }
def LawS5751CWholeSaid : Prop := lawS5751CWholeRow.holds Ybad.pinned (OpenSpec.ofChange lawS5751CWholeSpec)

/-- ITS FALSE NEIGHBOUR: 'it returns false'. Refute it at one input. -/
def lawS5751CWholeWrong : ChangeSpec := { name := "lawS5751CWhole", vars := ["example.com/chronospan/chronospan.monthStarts"], fn := fun _ => fun
  | [d1, d2, g1] => { results := [.lit (.bool false)], args := [d1, d2], vars := [g1] }
  | _ => none }
def LawS5751CWholeWrongFalsely : Prop := lawS5751CWholeRow.holds Ybad.pinned (OpenSpec.ofChange lawS5751CWholeWrong)

end Rows
end Go.Proofs.YbulkdobsDoor
