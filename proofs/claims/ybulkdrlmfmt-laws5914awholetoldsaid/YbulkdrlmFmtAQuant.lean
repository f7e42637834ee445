/-
  (*decoder).quantTable by its contract: the table is there; it is not.
-/
import Derived.Test.YbulkdrlmFmtLeaf
import Derived.Handy
import Derived.BigQuiet
import Derived.Deep.QuietTactic
namespace Go.Proofs.YbulkdrlmFmt
open Go.RowKit Go.Extern.Stop Go.Stop Go.Extern

set_option maxHeartbeats 400000 in
theorem quant_yes (D Fb C n idx t : Nat) (id x y : Int) (a : Addr) (w : World) (hi : idx < n) (ht : t < 4) (hD : D < w.heap.size)
    (h1 : w.cell? ⟨D, 1, none⟩ = some (.pointer (some ⟨Fb, 0, none⟩))) (h2 : w.cell? ⟨Fb, 4, none⟩ = some (.slice (some ⟨C, 0, none⟩) n n))
    (c0 : w.cell? ⟨C, idx * 4, none⟩ = some (.int .u8 id)) (c1 : w.cell? ⟨C, idx * 4 + 1, none⟩ = some (.int .i64 x)) (c2 : w.cell? ⟨C, idx * 4 + 2, none⟩ = some (.int .i64 y))
    (c3 : w.cell? ⟨C, idx * 4 + 3, none⟩ = some (.int .i64 t)) (hq : w.cell? ⟨D, 10 + t, none⟩ = some (.pointer (some a))) :
    Calls Ybaf.prog 6 #[.pointer (some ⟨D, 0, none⟩), .int .i64 idx] w fun e w' => e = .returned (.tuple #[.pointer (some a), .nilIface]) ∧ Below w.heap.size w w' := by
  go_enter Ybaf.func6, Ybaf.ntmps6
  go_wp2
  go_quiet (fail)
  go_wp2
  go_quiet (fail)
  go_wp2
  go_ret2
  exact ⟨rfl, below_drewN (below_drewN ((Below.refl _ _).alloc (Nat.le_refl _) _) _) _⟩

set_option maxHeartbeats 400000 in
theorem quant_no (F : Interp) (D Fb C n idx t : Nat) (id x y : Int) (w : World) (hF : F.answers w.tape) (hi : idx < n) (ht : t < 4) (hD : D < w.heap.size)
    (h1 : w.cell? ⟨D, 1, none⟩ = some (.pointer (some ⟨Fb, 0, none⟩))) (h2 : w.cell? ⟨Fb, 4, none⟩ = some (.slice (some ⟨C, 0, none⟩) n n))
    (c0 : w.cell? ⟨C, idx * 4, none⟩ = some (.int .u8 id)) (c1 : w.cell? ⟨C, idx * 4 + 1, none⟩ = some (.int .i64 x)) (c2 : w.cell? ⟨C, idx * 4 + 2, none⟩ = some (.int .i64 y))
    (c3 : w.cell? ⟨C, idx * 4 + 3, none⟩ = some (.int .i64 t)) (hq : w.cell? ⟨D, 10 + t, none⟩ = some (.pointer none)) :
    Calls Ybaf.prog 6 #[.pointer (some ⟨D, 0, none⟩), .int .i64 idx] w fun e w' => (∃ a, e = .returned (.tuple #[.pointer none, .iface 74 (.pointer (some a))])) ∧ Below w.heap.size w w' := by
  go_enter Ybaf.func6, Ybaf.ntmps6
  go_wp2
  go_quiet (fail)
  go_wp2_with (fail)
  refine (errorf_quant F id t _ _ (by exact hF) (by go_simp) (by go_simp)).mono ?_
  rintro e w' ⟨rfl, s, rfl⟩
  go_wp2
  go_ret2
  exact ⟨⟨_, rfl⟩, Below.drew (Below.alloc (Below.alloc (below_drewN (Below.alloc (Below.refl _ _) (Nat.le_refl _) _) _) (by simp) _) (by simp; omega) _)⟩
end Go.Proofs.YbulkdrlmFmt
