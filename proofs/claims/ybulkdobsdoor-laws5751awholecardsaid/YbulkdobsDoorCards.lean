/-
  DERIVED. GIVEN WITH THE SEED: THE CARDS: each row of YbulkdobsDoorRows.lean that lists a variable, with what it lists TIED to the program's text (the seventh form; the later family's looks); each row that meets fmt, with fmt's text TOLD by the authors' own Lean function (tested against real Go, not proved from fmt's source: count such statements apart). THE CARD IS WHAT COUNTS. Prove the row's statement (the work); the ties are given (YbulkdobsDoorTie.lean); close each card by the builder's one call (the guide's Derived/Test/ToyasCard.lean, 'card_holds'). Laid BY PROGRAM, IN A SANDBOX (cutbox-door.mjs). By AI agents, Wed Nov 11 2026. No macro, syntax, notation, axiom, sorry.
-/
import Derived.Test.YbulkdobsDoorRows
import GoSem.ClaimSeven
namespace Go.Proofs.YbulkdobsDoor
namespace Rows

/-- THE TIED CARD OF 'chronospan.LawS5751AWhole'. -/
def lawS5751AWholeCard : Claim7 := { stood := { row := lawS5751AWholeRow, standIns := [], harness := (true, "c83e6021e7487d4e81b468a14ff3a320189e8bf6846af664076028286f1cb97e"), looks := false }, kinds := [], alts := [], laidByText := true, laidKinds := [.data, .data, .data, .widerDeep], laidTests := true, laidLooks := .later }
def LawS5751AWholeCardSaid : Prop := Claim7.holds Ybad.pinned (.plain (OpenSpec.ofChange lawS5751AWholeSpec)) lawS5751AWholeCard

/-- THE TIED CARD OF 'chronospan.LawS5751CWhole'. -/
def lawS5751CWholeCard : Claim7 := { stood := { row := lawS5751CWholeRow, standIns := [], harness := (true, "c83e6021e7487d4e81b468a14ff3a320189e8bf6846af664076028286f1cb97e"), looks := false }, kinds := [], alts := [], laidByText := true, laidKinds := [.called], laidTests := true, laidLooks := .later }
def LawS5751CWholeCardSaid : Prop := Claim7.holds Ybad.pinned (.plain (OpenSpec.ofChange lawS5751CWholeSpec)) lawS5751CWholeCard
end Rows
end Go.Proofs.YbulkdobsDoor
