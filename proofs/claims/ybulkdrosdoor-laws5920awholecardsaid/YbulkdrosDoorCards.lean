/-
  DERIVED. GIVEN WITH THE SEED: THE CARDS: each row of YbulkdrosDoorRows.lean that lists a variable, with what it lists TIED to the program's text (the seventh form; the later family's looks); each row that meets fmt, with fmt's text TOLD by the authors' own Lean function (tested against real Go, not proved from fmt's source: count such statements apart). THE CARD IS WHAT COUNTS. Prove the row's statement (the work); the ties are given (YbulkdrosDoorTie.lean); close each card by the builder's one call (the guide's Derived/Test/ToyasCard.lean, 'card_holds'). Laid BY PROGRAM, IN A SANDBOX (cutbox-door.mjs). By AI agents, Wed Nov 11 2026. No macro, syntax, notation, axiom, sorry.
-/
import Derived.Test.YbulkdrosDoorRows
import GoSem.ClaimSeven
namespace Go.Proofs.YbulkdrosDoor
namespace Rows

/-- THE TIED CARD OF 'consts.LawS5920AWhole'. -/
def lawS5920AWholeCard : Claim7 := { stood := { row := lawS5920AWholeRow, standIns := [], harness := (true, "9964ac957ec76affe3b572cb42302392b8bc6c826f94733eca232ae397e15995"), looks := true }, kinds := [], alts := [], laidByText := true, laidKinds := [.data, .data, .data, .sentinel, .sentinel], laidTests := true, laidLooks := .later }
def LawS5920AWholeCardSaid : Prop := Claim7.holds Ybad.pinned (.plain (OpenSpec.ofChange lawS5920AWholeSpec)) lawS5920AWholeCard
end Rows
end Go.Proofs.YbulkdrosDoor
