/-
  No cell of these rows narrows 'for every input' (looked for: loops, veiled, ifaces, maps, wideKeys, modest, calm, conditions, laid).
  DERIVED. THE GIVEN ROWS OF THIS SEAT. 2 by the template 'for every input the law returns true; each argument reads behind the call as it read before'; 0 by the template 'total and deterministic' (their statements: YbulkdnzoTotals.lean).
  GIVEN WITH THE SEED: the statements are not yours to turn. If you find one false, say at which input.
  Laid BY PROGRAM, IN A SANDBOX (cutbox-rows.mjs): the forced cells as the released guide's own fill.sh prints them over the translation 63b159a9d4e168b4… (all of the seat's roots in one cut). By AI agents, Wed Nov 11 2026. No macro, syntax, notation, axiom, sorry.
-/
import Derived.Test.YbulkdnzoChecked
import GoSem.Claim
import GoSem.ClaimJoined
import GoSem.ClaimMapViews
import Derived.JoinedTies
import Derived.KernelRfl
namespace Go.Proofs.Ybulkdnzo
/- THE CELL 'sum', in the pinned program and in every row, IS THE sha256 OF THE DUMP (.gsa) THAT YbulkdnzoProg.lean LOADS. Nothing in Lean hashes anything: it is a label: what it is worth is what the hold of that sum in a sandbox is worth. -/
noncomputable def Yba.pinned : Pinned := { name := "ybulkdnzo", sum := "63b159a9d4e168b4bec60baccacf98d06899e7806dad90d59800d14f7b0769fa", checked := Yba.checked }
namespace Rows
def none {H : Type} : Left H := { results := [], args := [] }

/-- 'tidemark.LawS5747BWhole': WHATEVER THE INPUT: true; the input reads as it did. -/
def lawS5747BWholeSpec : ChangeSpec := { name := "lawS5747BWhole", fn := fun _ => fun
  | [d] => { results := [.lit (.bool true)], args := [d] }
  | _ => none }
def lawS5747BWholeRow : OpenClaim := { program := "ybulkdnzo", sum := "63b159a9d4e168b4bec60baccacf98d06899e7806dad90d59800d14f7b0769fa", func := "example.com/tidemark/tidemark.LawS5747BWhole", spec := "lawS5747BWhole", apart := false }
def LawS5747BWholeSaid : Prop := lawS5747BWholeRow.holds Yba.pinned (OpenSpec.ofChange lawS5747BWholeSpec)

/-- ITS FALSE NEIGHBOUR: 'it returns false'. Refute it at one input. -/
def lawS5747BWholeWrong : ChangeSpec := { name := "lawS5747BWhole", fn := fun _ => fun
  | [d] => { results := [.lit (.bool false)], args := [d] }
  | _ => none }
def LawS5747BWholeWrongFalsely : Prop := lawS5747BWholeRow.holds Yba.pinned (OpenSpec.ofChange lawS5747BWholeWrong)

/-- 'tidemark.LawS5747CWhole': WHATEVER THE INPUT: true; the input reads as it did. -/
def lawS5747CWholeSpec : ChangeSpec := { name := "lawS5747CWhole", fn := fun _ => fun
  | [d1, d2, d3, d4, d5] => { results := [.lit (.bool true)], args := [d1, d2, d3, d4, d5] }
  | _ => none }
def lawS5747CWholeRow : OpenClaim := { program := "ybulkdnzo", sum := "63b159a9d4e168b4bec60baccacf98d06899e7806dad90d59800d14f7b0769fa", func := "example.com/tidemark/tidemark.LawS5747CWhole", spec := "lawS5747CWhole", inPlace := ["internal/bytealg.abigen_runtime_cmpstring"], recurses := true, named := ["encoding/binary.LittleEndian"], apart := false }
def LawS5747CWholeSaid : Prop := lawS5747CWholeRow.holds Yba.pinned (OpenSpec.ofChange lawS5747CWholeSpec)

/-- ITS FALSE NEIGHBOUR: 'it returns false'. Refute it at one input. -/
def lawS5747CWholeWrong : ChangeSpec := { name := "lawS5747CWhole", fn := fun _ => fun
  | [d1, d2, d3, d4, d5] => { results := [.lit (.bool false)], args := [d1, d2, d3, d4, d5] }
  | _ => none }
def LawS5747CWholeWrongFalsely : Prop := lawS5747CWholeRow.holds Yba.pinned (OpenSpec.ofChange lawS5747CWholeWrong)

end Rows
end Go.Proofs.Ybulkdnzo
