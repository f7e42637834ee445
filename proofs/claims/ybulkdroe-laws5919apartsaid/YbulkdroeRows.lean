/-
  No cell of these rows narrows 'for every input' (looked for: loops, veiled, ifaces, maps, wideKeys, modest, calm, conditions, laid).
  DERIVED. THE GIVEN ROWS OF THIS SEAT. 1 by the template 'for every input the law returns true; each argument reads behind the call as it read before'; 0 by the template 'total and deterministic' (their statements: YbulkdroeTotals.lean).
  GIVEN WITH THE SEED: the statements are not yours to turn. If you find one false, say at which input.
  Laid BY PROGRAM, IN A SANDBOX (cutbox-rows.mjs): the forced cells as the released guide's own fill.sh prints them over the translation b3366ada9f511316… (all of the seat's roots in one cut). By AI agents, Wed Nov 11 2026. No macro, syntax, notation, axiom, sorry.
-/
import Derived.Test.YbulkdroeChecked
import GoSem.Claim
import GoSem.ClaimJoined
import GoSem.ClaimMapViews
import Derived.JoinedTies
import Derived.KernelRfl
namespace Go.Proofs.Ybulkdroe
/- THE CELL 'sum', in the pinned program and in every row, IS THE sha256 OF THE DUMP (.gsa) THAT YbulkdroeProg.lean LOADS. Nothing in Lean hashes anything: it is a label: what it is worth is what the hold of that sum in a sandbox is worth. -/
noncomputable def Yba.pinned : Pinned := { name := "ybulkdroe", sum := "b3366ada9f511316f09f80ede95df50fd8254083c315dc44f79a3dd330f0eae8", checked := Yba.checked }
namespace Rows
def none {H : Type} : Left H := { results := [], args := [] }

/-- 'lockstrata.LawS5919APart': WHATEVER THE INPUT: true; the input reads as it did. -/
def lawS5919APartSpec : ChangeSpec := { name := "lawS5919APart", fn := fun _ => fun
  | [d1, d2, d3, d4, d5, d6, d7, d8, d9, d10, d11, d12] => { results := [.lit (.bool true)], args := [d1, d2, d3, d4, d5, d6, d7, d8, d9, d10, d11, d12] }
  | _ => none }
def lawS5919APartRow : OpenClaim := { program := "ybulkdroe", sum := "b3366ada9f511316f09f80ede95df50fd8254083c315dc44f79a3dd330f0eae8", func := "example.com/lockstrata/lockstrata.LawS5919APart", spec := "lawS5919APart", unfollowed := true, recurses := true, plainKeys := false, apart := false }
def LawS5919APartSaid : Prop := lawS5919APartRow.holds Yba.pinned (OpenSpec.ofChange lawS5919APartSpec)

/-- ITS FALSE NEIGHBOUR: 'it returns false'. Refute it at one input. -/
def lawS5919APartWrong : ChangeSpec := { name := "lawS5919APart", fn := fun _ => fun
  | [d1, d2, d3, d4, d5, d6, d7, d8, d9, d10, d11, d12] => { results := [.lit (.bool false)], args := [d1, d2, d3, d4, d5, d6, d7, d8, d9, d10, d11, d12] }
  | _ => none }
def LawS5919APartWrongFalsely : Prop := lawS5919APartRow.holds Yba.pinned (OpenSpec.ofChange lawS5919APartWrong)

end Rows
end Go.Proofs.Ybulkdroe
