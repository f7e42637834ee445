/-
  The leaves: fmt.Errorf at this program's two formats (for every F), and the small functions of the two laws.
-/
import Derived.Test.YbulkdrlmFmtFacts
namespace Go.Proofs.YbulkdrlmFmt
open Go.RowKit Go.Extern.Stop Go.Stop Go.Extern
attribute [local go_sem] call14 fguard fmt0 fmt0r fmt1 fmt1r op3_100w op5_100w ptr74 elem74 isError74

/-- fmt.Errorf at quantTable's format: a new error; one new block, one draw. -/
theorem errorf_quant (F : Interp) (a b : Int) (blk : Nat) (w : World) (hF : F.answers w.tape)
    (hc0 : w.cell? ⟨blk, 0, none⟩ = some (.iface 5 (.int .u8 a))) (hc1 : w.cell? ⟨blk, 1, none⟩ = some (.iface 3 (.int .i64 b))) :
    Calls Ybaf.prog 10 #[.string ⟨#[99, 111, 109, 112, 111, 110, 101, 110, 116, 32, 37, 100, 32, 105, 115, 32, 113, 117, 97, 110, 116, 105, 115, 101, 100, 32, 119, 105, 116, 104, 32, 116, 97, 98, 108, 101, 32, 37, 100, 44, 32, 119, 104, 105, 99, 104, 32, 110, 111, 32, 68, 81, 84, 32, 115, 101, 103, 109, 101, 110, 116, 32, 100, 101, 102, 105, 110, 101, 115]⟩, .slice (some ⟨blk, 0, none⟩) 2 2] w fun e w' =>
      e = .returned (.iface 74 (.pointer (some ⟨w.heap.size, 0, none⟩))) ∧ ∃ s : ByteArray, w' = (w.alloc (.cells #[.string s] 76)).drew := by
  have hF' := answers_open hF
  go_enter Ybaf.func10, Ybaf.ntmps10
  go_wp2
  go_ret
  exact ⟨rfl, _, rfl⟩

/-- fmt.Errorf at tooLarge's format. -/
theorem errorf_large (F : Interp) (a b : Int) (blk : Nat) (w : World) (hF : F.answers w.tape)
    (hc0 : w.cell? ⟨blk, 0, none⟩ = some (.iface 3 (.int .i64 a))) (hc1 : w.cell? ⟨blk, 1, none⟩ = some (.iface 3 (.int .i64 b))) :
    Calls Ybaf.prog 10 #[.string ⟨#[37, 100, 32, 105, 115, 32, 109, 111, 114, 101, 32, 116, 104, 97, 110, 32, 37, 100, 32, 98, 105, 116, 115, 32, 104, 111, 108, 100]⟩, .slice (some ⟨blk, 0, none⟩) 2 2] w fun e w' =>
      e = .returned (.iface 74 (.pointer (some ⟨w.heap.size, 0, none⟩))) ∧ ∃ s : ByteArray, w' = (w.alloc (.cells #[.string s] 76)).drew := by
  have hF' := answers_open hF
  go_enter Ybaf.func10, Ybaf.ntmps10
  go_wp2
  go_ret
  exact ⟨rfl, _, rfl⟩

/-- What zzs5914acell computes. -/
def cellv (f k j : Int) : Int := bits .xor .u16 f (k * 64 + j)

theorem acell_any (f k j : Int) (w : World) (hk0 : 0 ≤ k) (hk : k < 4) (hj0 : 0 ≤ j) (hj : j < 64) :
    Calls Ybaf.prog 5 #[.int .u16 f, .int .i64 k, .int .i64 j] w fun e w' => e = .returned (.int .u16 (cellv f k j)) ∧ w' = w := by
  go_enter Ybaf.func5, Ybaf.ntmps5
  go_wp2
  go_ret
  exact ⟨rfl, rfl⟩
end Go.Proofs.YbulkdrlmFmt
