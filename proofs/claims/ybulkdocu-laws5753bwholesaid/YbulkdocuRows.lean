/-
  No cell of these rows narrows 'for every input' (looked for: loops, veiled, ifaces, maps, wideKeys, modest, calm, conditions, laid).
  DERIVED. THE GIVEN ROWS OF THIS SEAT. 3 by the template 'for every input the law returns true; each argument reads behind the call as it read before'; 0 by the template 'total and deterministic' (their statements: YbulkdocuTotals.lean).
  GIVEN WITH THE SEED: the statements are not yours to turn. If you find one false, say at which input.
  Laid BY PROGRAM, IN A SANDBOX (cutbox-rows.mjs): the forced cells as the released guide's own fill.sh prints them over the translation fff5e0fce71b1bc6… (all of the seat's roots in one cut). By AI agents, Wed Nov 11 2026. No macro, syntax, notation, axiom, sorry.
-/
import Derived.Test.YbulkdocuChecked
import GoSem.Claim
import GoSem.ClaimJoined
import GoSem.ClaimMapViews
import Derived.JoinedTies
import Derived.KernelRfl
namespace Go.Proofs.Ybulkdocu
/- THE CELL 'sum', in the pinned program and in every row, IS THE sha256 OF THE DUMP (.gsa) THAT YbulkdocuProg.lean LOADS. Nothing in Lean hashes anything: it is a label: what it is worth is what the hold of that sum in a sandbox is worth. -/
noncomputable def Yba.pinned : Pinned := { name := "ybulkdocu", sum := "fff5e0fce71b1bc6cb3bd1308b4eb3866c034db7599b63df8f6c8a4d74b34535", checked := Yba.checked }
namespace Rows
def none {H : Type} : Left H := { results := [], args := [] }

/-- 'archive.LawS5753AWhole': WHATEVER THE INPUT: true; the input reads as it did. -/
def lawS5753AWholeSpec : ChangeSpec := { name := "lawS5753AWhole", fn := fun _ => fun
  | [d1, d2, d3, d4, d5] => { results := [.lit (.bool true)], args := [d1, d2, d3, d4, d5] }
  | _ => none }
def lawS5753AWholeRow : OpenClaim := { program := "ybulkdocu", sum := "fff5e0fce71b1bc6cb3bd1308b4eb3866c034db7599b63df8f6c8a4d74b34535", func := "example.com/stowage/stowage/archive.LawS5753AWhole", spec := "lawS5753AWhole", apart := false }
def LawS5753AWholeSaid : Prop := lawS5753AWholeRow.holds Yba.pinned (OpenSpec.ofChange lawS5753AWholeSpec)

/-- ITS FALSE NEIGHBOUR: 'it returns false'. Refute it at one input. -/
def lawS5753AWholeWrong : ChangeSpec := { name := "lawS5753AWhole", fn := fun _ => fun
  | [d1, d2, d3, d4, d5] => { results := [.lit (.bool false)], args := [d1, d2, d3, d4, d5] }
  | _ => none }
def LawS5753AWholeWrongFalsely : Prop := lawS5753AWholeRow.holds Yba.pinned (OpenSpec.ofChange lawS5753AWholeWrong)

/-- 'rgog.LawS5753BWhole': WHATEVER THE INPUT: true; the input reads as it did. -/
def lawS5753BWholeSpec : ChangeSpec := { name := "lawS5753BWhole", fn := fun _ => fun
  | [d1, d2, d3] => { results := [.lit (.bool true)], args := [d1, d2, d3] }
  | _ => none }
def lawS5753BWholeRow : OpenClaim := { program := "ybulkdocu", sum := "fff5e0fce71b1bc6cb3bd1308b4eb3866c034db7599b63df8f6c8a4d74b34535", func := "example.com/stowage/stowage/rgog.LawS5753BWhole", spec := "lawS5753BWhole", unfollowed := true, recurses := true, apart := false }
def LawS5753BWholeSaid : Prop := lawS5753BWholeRow.holds Yba.pinned (OpenSpec.ofChange lawS5753BWholeSpec)

/-- ITS FALSE NEIGHBOUR: 'it returns false'. Refute it at one input. -/
def lawS5753BWholeWrong : ChangeSpec := { name := "lawS5753BWhole", fn := fun _ => fun
  | [d1, d2, d3] => { results := [.lit (.bool false)], args := [d1, d2, d3] }
  | _ => none }
def LawS5753BWholeWrongFalsely : Prop := lawS5753BWholeRow.holds Yba.pinned (OpenSpec.ofChange lawS5753BWholeWrong)

/-- 'archive.LawS5753CWhole': WHATEVER THE INPUT: true; the input reads as it did. -/
def lawS5753CWholeSpec : ChangeSpec := { name := "lawS5753CWhole", fn := fun _ => fun
  | [d1, d2, d3, d4, d5] => { results := [.lit (.bool true)], args := [d1, d2, d3, d4, d5] }
  | _ => none }
def lawS5753CWholeRow : OpenClaim := { program := "ybulkdocu", sum := "fff5e0fce71b1bc6cb3bd1308b4eb3866c034db7599b63df8f6c8a4d74b34535", func := "example.com/stowage/stowage/archive.LawS5753CWhole", spec := "lawS5753CWhole", unfollowed := true, recurses := true, apart := false }
def LawS5753CWholeSaid : Prop := lawS5753CWholeRow.holds Yba.pinned (OpenSpec.ofChange lawS5753CWholeSpec)

/-- ITS FALSE NEIGHBOUR: 'it returns false'. Refute it at one input. -/
def lawS5753CWholeWrong : ChangeSpec := { name := "lawS5753CWhole", fn := fun _ => fun
  | [d1, d2, d3, d4, d5] => { results := [.lit (.bool false)], args := [d1, d2, d3, d4, d5] }
  | _ => none }
def LawS5753CWholeWrongFalsely : Prop := lawS5753CWholeRow.holds Yba.pinned (OpenSpec.ofChange lawS5753CWholeWrong)

end Rows
end Go.Proofs.Ybulkdocu
