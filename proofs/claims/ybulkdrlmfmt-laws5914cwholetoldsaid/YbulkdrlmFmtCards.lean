/-
  DERIVED. GIVEN WITH THE SEED: THE CARDS: each row of YbulkdrlmFmtRows.lean that lists a variable, with what it lists TIED to the program's text (the seventh form; the later family's looks); each row that meets fmt, with fmt's text TOLD by the authors' own Lean function (tested against real Go, not proved from fmt's source: count such statements apart). THE CARD IS WHAT COUNTS. Prove the row's statement (the work); the ties are given (YbulkdrlmFmtTie.lean); close each card by the builder's one call (the guide's Derived/Test/ToyasCard.lean, 'card_holds'). Laid BY PROGRAM, IN A SANDBOX (cutbox-door.mjs). By AI agents, Wed Nov 11 2026. No macro, syntax, notation, axiom, sorry.
-/
import Derived.Test.YbulkdrlmFmtRows
import GoSem.ClaimSeven
namespace Go.Proofs.YbulkdrlmFmt
namespace Rows

/-- THE TOLD CARD OF 'jpeg.LawS5914AWhole'. -/
def lawS5914AWholeCard : Claim7 := { stood := { row := lawS5914AWholeRow, standIns := [], harness := (true, "44d2ab8c239a505c9b921885d17554325b83abea35a2f5269b571ae623d70fff"), looks := false }, told := true, goes := false }
def LawS5914AWholeToldSaid : Prop := Claim7.holds Ybaf.pinned (.plain (OpenSpec.ofChange lawS5914AWholeSpec)) lawS5914AWholeCard
/-- ITS FALSE NEIGHBOUR. Refute it at one input. -/
def LawS5914AWholeToldWrongFalsely : Prop := Claim7.holds Ybaf.pinned (.plain (OpenSpec.ofChange lawS5914AWholeWrong)) lawS5914AWholeCard

/-- THE TOLD CARD OF 'jpeg.LawS5914CWhole'. -/
def lawS5914CWholeCard : Claim7 := { stood := { row := lawS5914CWholeRow, standIns := [], harness := (true, "44d2ab8c239a505c9b921885d17554325b83abea35a2f5269b571ae623d70fff"), looks := false }, told := true, goes := false }
def LawS5914CWholeToldSaid : Prop := Claim7.holds Ybaf.pinned (.plain (OpenSpec.ofChange lawS5914CWholeSpec)) lawS5914CWholeCard
/-- ITS FALSE NEIGHBOUR. Refute it at one input. -/
def LawS5914CWholeToldWrongFalsely : Prop := Claim7.holds Ybaf.pinned (.plain (OpenSpec.ofChange lawS5914CWholeWrong)) lawS5914CWholeCard
end Rows
end Go.Proofs.YbulkdrlmFmt
