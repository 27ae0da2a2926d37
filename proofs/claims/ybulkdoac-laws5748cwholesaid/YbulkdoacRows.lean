/-
  No cell of these rows narrows 'for every input' (looked for: loops, veiled, ifaces, maps, wideKeys, modest, calm, conditions, laid).
  DERIVED. THE GIVEN ROWS OF THIS SEAT. 1 by the template 'for every input the law returns true; each argument reads behind the call as it read before'; 0 by the template 'total and deterministic' (their statements: YbulkdoacTotals.lean).
  GIVEN WITH THE SEED: the statements are not yours to turn. If you find one false, say at which input.
  Laid BY PROGRAM, IN A SANDBOX (cutbox-rows.mjs): the forced cells as the released guide's own fill.sh prints them over the translation dd60a63751712ce4… (all of the seat's roots in one cut). By AI agents, Wed Nov 11 2026. No macro, syntax, notation, axiom, sorry.
-/
import Derived.Test.YbulkdoacChecked
import GoSem.Claim
import GoSem.ClaimJoined
import GoSem.ClaimMapViews
import Derived.JoinedTies
import Derived.KernelRfl
namespace Go.Proofs.Ybulkdoac
/- THE CELL 'sum', in the pinned program and in every row, IS THE sha256 OF THE DUMP (.gsa) THAT YbulkdoacProg.lean LOADS. Nothing in Lean hashes anything: it is a label: what it is worth is what the hold of that sum in a sandbox is worth. -/
noncomputable def Yba.pinned : Pinned := { name := "ybulkdoac", sum := "dd60a63751712ce44df3e8a466055d8316bf0ce14ad0fa9477dc1a2d58640092", checked := Yba.checked }
namespace Rows
def none {H : Type} : Left H := { results := [], args := [] }

/-- 'fourfold.LawS5748CWhole': WHATEVER THE INPUT: true; the input reads as it did. -/
def lawS5748CWholeSpec : ChangeSpec := { name := "lawS5748CWhole", fn := fun _ => fun
  | [d1, d2, d3, d4] => { results := [.lit (.bool true)], args := [d1, d2, d3, d4] }
  | _ => none }
def lawS5748CWholeRow : OpenClaim := { program := "ybulkdoac", sum := "dd60a63751712ce44df3e8a466055d8316bf0ce14ad0fa9477dc1a2d58640092", func := "example.com/fourfold/fourfold.LawS5748CWhole", spec := "lawS5748CWhole", inPlace := ["sync/atomic.StoreUint64", "sync/atomic.LoadUint64"], apart := false }
def LawS5748CWholeSaid : Prop := lawS5748CWholeRow.holds Yba.pinned (OpenSpec.ofChange lawS5748CWholeSpec)

/-- ITS FALSE NEIGHBOUR: 'it returns false'. Refute it at one input. -/
def lawS5748CWholeWrong : ChangeSpec := { name := "lawS5748CWhole", fn := fun _ => fun
  | [d1, d2, d3, d4] => { results := [.lit (.bool false)], args := [d1, d2, d3, d4] }
  | _ => none }
def LawS5748CWholeWrongFalsely : Prop := lawS5748CWholeRow.holds Yba.pinned (OpenSpec.ofChange lawS5748CWholeWrong)

end Rows
end Go.Proofs.Ybulkdoac
