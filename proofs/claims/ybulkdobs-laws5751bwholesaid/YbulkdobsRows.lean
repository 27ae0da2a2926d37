/-
  No cell of these rows narrows 'for every input' (looked for: loops, veiled, ifaces, maps, wideKeys, modest, calm, conditions, laid).
  DERIVED. THE GIVEN ROWS OF THIS SEAT. 1 by the template 'for every input the law returns true; each argument reads behind the call as it read before'; 0 by the template 'total and deterministic' (their statements: YbulkdobsTotals.lean).
  GIVEN WITH THE SEED: the statements are not yours to turn. If you find one false, say at which input.
  Laid BY PROGRAM, IN A SANDBOX (cutbox-rows.mjs): the forced cells as the released guide's own fill.sh prints them over the translation 71dda917a91ed54d… (all of the seat's roots in one cut). By AI agents, Wed Nov 11 2026. No macro, syntax, notation, axiom, sorry.
-/
import Derived.Test.YbulkdobsChecked
import GoSem.Claim
import GoSem.ClaimJoined
import GoSem.ClaimMapViews
import Derived.JoinedTies
import Derived.KernelRfl
namespace Go.Proofs.Ybulkdobs
/- THE CELL 'sum', in the pinned program and in every row, IS THE sha256 OF THE DUMP (.gsa) THAT YbulkdobsProg.lean LOADS. Nothing in Lean hashes anything: it is a label: what it is worth is what the hold of that sum in a sandbox is worth. -/
noncomputable def Yba.pinned : Pinned := { name := "ybulkdobs", sum := "71dda917a91ed54d83a66e5d76a99f7655366f0fc4817b55b9ce7fa39c4d0b93", checked := Yba.checked }
namespace Rows
def none {H : Type} : Left H := { results := [], args := [] }

/-- 'chronospan.LawS5751BWhole': WHATEVER THE INPUT: true; the input reads as it did. -/
def lawS5751BWholeSpec : ChangeSpec := { name := "lawS5751BWhole", fn := fun _ => fun
  | [d1, d2, d3, d4, d5, d6] => { results := [.lit (.bool true)], args := [d1, d2, d3, d4, d5, d6] }
  | _ => none }
def lawS5751BWholeRow : OpenClaim := { program := "ybulkdobs", sum := "71dda917a91ed54d83a66e5d76a99f7655366f0fc4817b55b9ce7fa39c4d0b93", func := "example.com/chronospan/chronospan.LawS5751BWhole", spec := "lawS5751BWhole", apart := false }
def LawS5751BWholeSaid : Prop := lawS5751BWholeRow.holds Yba.pinned (OpenSpec.ofChange lawS5751BWholeSpec)

/-- ITS FALSE NEIGHBOUR: 'it returns false'. Refute it at one input. -/
def lawS5751BWholeWrong : ChangeSpec := { name := "lawS5751BWhole", fn := fun _ => fun
  | [d1, d2, d3, d4, d5, d6] => { results := [.lit (.bool false)], args := [d1, d2, d3, d4, d5, d6] }
  | _ => none }
def LawS5751BWholeWrongFalsely : Prop := lawS5751BWholeRow.holds Yba.pinned (OpenSpec.ofChange lawS5751BWholeWrong)

end Rows
end Go.Proofs.Ybulkdobs
