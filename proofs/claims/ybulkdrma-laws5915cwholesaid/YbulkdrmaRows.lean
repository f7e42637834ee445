/-
  No cell of these rows narrows 'for every input' (looked for: loops, veiled, ifaces, maps, wideKeys, modest, calm, conditions, laid).
  DERIVED. THE GIVEN ROWS OF THIS SEAT. 1 by the template 'for every input the law returns true; each argument reads behind the call as it read before'; 0 by the template 'total and deterministic' (their statements: YbulkdrmaTotals.lean).
  GIVEN WITH THE SEED: the statements are not yours to turn. If you find one false, say at which input.
  Laid BY PROGRAM, IN A SANDBOX (cutbox-rows.mjs): the forced cells as the released guide's own fill.sh prints them over the translation aee276ab5d91f916… (all of the seat's roots in one cut). By AI agents, Wed Nov 11 2026. No macro, syntax, notation, axiom, sorry.
-/
import Derived.Test.YbulkdrmaChecked
import GoSem.Claim
import GoSem.ClaimJoined
import GoSem.ClaimMapViews
import Derived.JoinedTies
import Derived.KernelRfl
namespace Go.Proofs.Ybulkdrma
/- THE CELL 'sum', in the pinned program and in every row, IS THE sha256 OF THE DUMP (.gsa) THAT YbulkdrmaProg.lean LOADS. Nothing in Lean hashes anything: it is a label: what it is worth is what the hold of that sum in a sandbox is worth. -/
noncomputable def Yba.pinned : Pinned := { name := "ybulkdrma", sum := "aee276ab5d91f9169afc4438826c0e1b6dde2c5937eec79a46ed46a7500977a4", checked := Yba.checked }
namespace Rows
def none {H : Type} : Left H := { results := [], args := [] }

/-- 'lading.LawS5915CWhole': WHATEVER THE INPUT: true; the input reads as it did. -/
def lawS5915CWholeSpec : ChangeSpec := { name := "lawS5915CWhole", fn := fun _ => fun
  | [d] => { results := [.lit (.bool true)], args := [d] }
  | _ => none }
def lawS5915CWholeRow : OpenClaim := { program := "ybulkdrma", sum := "aee276ab5d91f9169afc4438826c0e1b6dde2c5937eec79a46ed46a7500977a4", func := "example.com/lading/lading.LawS5915CWhole", spec := "lawS5915CWhole", apart := false }
def LawS5915CWholeSaid : Prop := lawS5915CWholeRow.holds Yba.pinned (OpenSpec.ofChange lawS5915CWholeSpec)

/-- ITS FALSE NEIGHBOUR: 'it returns false'. Refute it at one input. -/
def lawS5915CWholeWrong : ChangeSpec := { name := "lawS5915CWhole", fn := fun _ => fun
  | [d] => { results := [.lit (.bool false)], args := [d] }
  | _ => none }
def LawS5915CWholeWrongFalsely : Prop := lawS5915CWholeRow.holds Yba.pinned (OpenSpec.ofChange lawS5915CWholeWrong)

end Rows
end Go.Proofs.Ybulkdrma
