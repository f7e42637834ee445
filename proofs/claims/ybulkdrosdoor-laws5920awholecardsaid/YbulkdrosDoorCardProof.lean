/-
  LawS5920AWhole: the card: the row, its listed variables tied to the program's text (the tie is given).
-/
import Derived.Test.YbulkdrosDoorProof
import Derived.Test.YbulkdrosDoorTie
import Derived.Test.YbulkdrosDoorCards
import Derived.SevenTiedAt
namespace Go.Proofs.YbulkdrosDoor
open Go

/-- THE STATEMENT. -/
theorem lawS5920AWholeCard_proved : Rows.LawS5920AWholeCardSaid :=
  Claim7.holds_tied_plain_at .later [] [.data, .data, .data, .sentinel, .sentinel] true (true, "9964ac957ec76affe3b572cb42302392b8bc6c826f94733eca232ae397e15995") true
    LawA.row_holds (fun _ h => by cases h) (by kernel_rfl) (fun _ h => by cases h) lawS5920AWhole_row_tie rfl ⟨rfl, rfl⟩ (by kernel_rfl) rfl
    (fun f fn hf hfn => by
      obtain rfl : f = 3 := Option.some.inj ((show Ybad.prog.funcNamed Rows.lawS5920AWholeRow.func = some 3 by kernel_rfl).symm.trans hf) |>.symm
      obtain rfl : fn = Ybad.f3 := (Option.some.inj (Ybad.func3.symm.trans hfn)).symm
      exact ⟨by kernel_rfl, fun j t ht => by
        rw [Ybad.params3] at ht
        have hm : t ∈ [9, 9, 3, 4, 2] := by simpa using Array.mem_of_getElem? ht
        have hall : ([9, 9, 3, 4, 2].all fun u => !Ybad.prog.wantsStandIn u) = true := by kernel_rfl
        exact (show Ybad.prog.wantsStandIn t = false by simpa using List.all_eq_true.1 hall t hm)⟩)
    (by kernel_rfl)
end Go.Proofs.YbulkdrosDoor
