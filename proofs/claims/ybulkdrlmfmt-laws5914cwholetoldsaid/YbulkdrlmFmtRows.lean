/-
  No cell of these rows narrows 'for every input' (looked for: loops, veiled, ifaces, maps, wideKeys, modest, calm, conditions, laid).
  DERIVED. THE GIVEN ROWS OF THIS SEAT. 2 by the template 'for every input the law returns true; each argument reads behind the call as it read before'; 0 by the template 'total and deterministic' (their statements: YbulkdrlmFmtTotals.lean).
  GIVEN WITH THE SEED: the statements are not yours to turn. If you find one false, say at which input.
  Laid BY PROGRAM, IN A SANDBOX (cutbox-rows.mjs): the forced cells as the released guide's own fill.sh prints them over the translation 15a9285ec5d62205… (all of the seat's roots in one cut). By AI agents, Wed Nov 11 2026. No macro, syntax, notation, axiom, sorry.
-/
import Derived.Test.YbulkdrlmFmtChecked
import GoSem.Claim
import GoSem.ClaimJoined
import GoSem.ClaimMapViews
import Derived.JoinedTies
import Derived.KernelRfl
namespace Go.Proofs.YbulkdrlmFmt
/- THE CELL 'sum', in the pinned program and in every row, IS THE sha256 OF THE DUMP (.gsa) THAT YbulkdrlmFmtProg.lean LOADS. Nothing in Lean hashes anything: it is a label: what it is worth is what the hold of that sum in a sandbox is worth. -/
noncomputable def Ybaf.pinned : Pinned := { name := "ybulkdrlmfmt", sum := "15a9285ec5d62205dcb583cf529bd9ff9e6d57e2e319fdd2df59b3bd8ead3a36", checked := Ybaf.checked }
namespace Rows
def none {H : Type} : Left H := { results := [], args := [] }

/-- 'jpeg.LawS5914AWhole': WHATEVER THE INPUT: true; the input reads as it did. -/
def lawS5914AWholeSpec : ChangeSpec := { name := "lawS5914AWhole", fn := fun _ => fun
  | [d1, d2, d3, d4] => { results := [.lit (.bool true)], args := [d1, d2, d3, d4] }
  | _ => none }
def lawS5914AWholeRow : OpenClaim := { program := "ybulkdrlmfmt", sum := "15a9285ec5d62205dcb583cf529bd9ff9e6d57e2e319fdd2df59b3bd8ead3a36", func := "example.com/unhuff/unhuff/internal/jpeg.LawS5914AWhole", spec := "lawS5914AWhole", stops := ["fmt.errorf"], inPlace := ["fmt.errorf"], apart := false }
/-- NO THEOREM (fmt's text is open here; it may be false): for the released tool's asking of the row's closed facts alone. THE STATEMENT IS 'LawS5914AWholeToldSaid' (YbulkdrlmFmtCards.lean). -/
def LawS5914AWholeFormAsk : Prop := lawS5914AWholeRow.holds Ybaf.pinned (OpenSpec.ofChange lawS5914AWholeSpec)

/-- ITS FALSE NEIGHBOUR: 'it returns false'. Refute it at one input. -/
def lawS5914AWholeWrong : ChangeSpec := { name := "lawS5914AWhole", fn := fun _ => fun
  | [d1, d2, d3, d4] => { results := [.lit (.bool false)], args := [d1, d2, d3, d4] }
  | _ => none }
def LawS5914AWholeWrongFormAsk : Prop := lawS5914AWholeRow.holds Ybaf.pinned (OpenSpec.ofChange lawS5914AWholeWrong)

/-- 'jpeg.LawS5914CWhole': WHATEVER THE INPUT: true; the input reads as it did. -/
def lawS5914CWholeSpec : ChangeSpec := { name := "lawS5914CWhole", fn := fun _ => fun
  | [d1, d2, d3, d4, d5] => { results := [.lit (.bool true)], args := [d1, d2, d3, d4, d5] }
  | _ => none }
def lawS5914CWholeRow : OpenClaim := { program := "ybulkdrlmfmt", sum := "15a9285ec5d62205dcb583cf529bd9ff9e6d57e2e319fdd2df59b3bd8ead3a36", func := "example.com/unhuff/unhuff/internal/jpeg.LawS5914CWhole", spec := "lawS5914CWhole", stops := ["fmt.errorf"], inPlace := ["fmt.errorf"], apart := false }
/-- NO THEOREM (fmt's text is open here; it may be false): for the released tool's asking of the row's closed facts alone. THE STATEMENT IS 'LawS5914CWholeToldSaid' (YbulkdrlmFmtCards.lean). -/
def LawS5914CWholeFormAsk : Prop := lawS5914CWholeRow.holds Ybaf.pinned (OpenSpec.ofChange lawS5914CWholeSpec)

/-- ITS FALSE NEIGHBOUR: 'it returns false'. Refute it at one input. -/
def lawS5914CWholeWrong : ChangeSpec := { name := "lawS5914CWhole", fn := fun _ => fun
  | [d1, d2, d3, d4, d5] => { results := [.lit (.bool false)], args := [d1, d2, d3, d4, d5] }
  | _ => none }
def LawS5914CWholeWrongFormAsk : Prop := lawS5914CWholeRow.holds Ybaf.pinned (OpenSpec.ofChange lawS5914CWholeWrong)

end Rows
end Go.Proofs.YbulkdrlmFmt
