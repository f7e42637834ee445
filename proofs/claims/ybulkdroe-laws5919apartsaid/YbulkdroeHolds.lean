/-
  (*lockNode).holdsAny by its contracts.
-/
import Derived.Test.YbulkdroeRows
import Derived.WalkKit
import Derived.WalkSpells
import Derived.WalkLawsBesides
import Derived.Handy
import Derived.BigQuiet
import Derived.Deep.QuietTactic
import Derived.LaidEqlPtr
namespace Go.Proofs.Ybulkdroe
open Go.RowKit

/-- What (modeSet).has computes. -/
def hasB (ms md : Int) : Bool := bits BinOp.and IntKind.u64 ms (IntKind.u64.wrap (2 ^ min md.toNat 64)) != 0

theorem has_any (ms md : Int) (w : World) (d0 : 0 ≤ md) :
    Calls Yba.prog 8 #[.int .u64 ms, .int .u8 md] w fun e w' => e = .returned (.bool (hasB ms md)) ∧ w' = w := by
  go_enter Yba.func8, Yba.ntmps8
  go_wp2
  go_ret
  exact ⟨rfl, rfl⟩

theorem and_zero (x : Int) : bits BinOp.and IntKind.u64 0 x = 0 := by
  show IntKind.u64.wrap ((BitVec.ofInt 64 0 &&& BitVec.ofInt 64 x).toNat : Nat) = 0
  have : (BitVec.ofInt 64 0 &&& BitVec.ofInt 64 x).toNat = 0 := by simp
  rw [this]; decide

set_option maxHeartbeats 400000 in
theorem holds_none (N M : Nat) (ms : Int) (ex : Option Addr) (w : World) (h9 : w.cell? ⟨N, 9, none⟩ = some (.pointer (some ⟨M, 0, none⟩))) (h2 : w.cell? ⟨M, 2, none⟩ = some (.pointer none)) (h0 : w.cell? ⟨N, 0, none⟩ = some (.pointer none)) :
    Calls Yba.prog 4 #[.pointer (some ⟨N, 0, none⟩), .int .u64 ms, .pointer ex] w fun e w' => e = .returned (.bool false) ∧ ∃ q, w' = w.drewN q := by
  go_enter Yba.func4, Yba.ntmps4
  go_wp2
  go_ret
  exact ⟨rfl, 0, rfl⟩

/-- f is held, and is the lock to be passed over. -/
theorem holds_same (N M : Nat) (ms : Int) (o : Addr) (w : World) (h9 : w.cell? ⟨N, 9, none⟩ = some (.pointer (some ⟨M, 0, none⟩))) (h2 : w.cell? ⟨M, 2, none⟩ = some (.pointer none)) (h0 : w.cell? ⟨N, 0, none⟩ = some (.pointer (some o)))
    (hne : (binOp .neq 73 (.pointer (some ⟨N, 0, none⟩)) (.pointer (some ⟨N, 0, none⟩))).run Yba.prog w = .ok (.bool false) w) :
    Calls Yba.prog 4 #[.pointer (some ⟨N, 0, none⟩), .int .u64 ms, .pointer (some ⟨N, 0, none⟩)] w fun e w' => e = .returned (.bool false) ∧ ∃ q, w' = w.drewN q := by
  go_enter Yba.func4, Yba.ntmps4
  go_wp2
  go_ret
  exact ⟨rfl, 0, rfl⟩

/-- f is held, and is not the lock to be passed over. -/
theorem holds_first (N M : Nat) (ms md : Int) (o : Addr) (ex : Option Addr) (w : World) (h9 : w.cell? ⟨N, 9, none⟩ = some (.pointer (some ⟨M, 0, none⟩))) (h2 : w.cell? ⟨M, 2, none⟩ = some (.pointer none)) (h0 : w.cell? ⟨N, 0, none⟩ = some (.pointer (some o)))
    (h4 : w.cell? ⟨N, 4, none⟩ = some (.int .u8 md)) (d0 : 0 ≤ md)
    (hne : (binOp .neq 73 (.pointer (some ⟨N, 0, none⟩)) (.pointer ex)).run Yba.prog w = .ok (.bool true) w) :
    Calls Yba.prog 4 #[.pointer (some ⟨N, 0, none⟩), .int .u64 ms, .pointer ex] w fun e w' => e = .returned (.bool (hasB ms md)) ∧ ∃ q, w' = w.drewN q := by
  go_enter Yba.func4, Yba.ntmps4
  go_wp2_with (first | (go_at_call 8; refine (has_any _ _ _ (by omega)).mono ?_; rintro e w' ⟨rfl, rfl⟩) | go_in)
  go_ret
  exact ⟨rfl, 0, rfl⟩

/-- A crowd that holds nothing; no lock is passed over. -/
theorem holds_crowd_nil (N M C : Nat) (ms : Int) (w : World) (h9 : w.cell? ⟨N, 9, none⟩ = some (.pointer (some ⟨M, 0, none⟩))) (h2 : w.cell? ⟨M, 2, none⟩ = some (.pointer (some ⟨C, 0, none⟩))) (c1 : w.cell? ⟨C, 1, none⟩ = some (.int .u64 0)) :
    Calls Yba.prog 4 #[.pointer (some ⟨N, 0, none⟩), .int .u64 ms, .pointer none] w fun e w' => e = .returned (.bool false) ∧ ∃ q, w' = w.drewN q := by
  have hz := and_zero ms
  go_enter Yba.func4, Yba.ntmps4
  go_wp2
  go_quiet (fail)
  go_wp2
  go_ret
  exact ⟨rfl, _, rfl⟩

set_option maxHeartbeats 400000 in
theorem holds_crowd (N M C O : Nat) (ms nd sh nd' sh' rm : Int) (w : World) (h9 : w.cell? ⟨N, 9, none⟩ = some (.pointer (some ⟨M, 0, none⟩))) (h2 : w.cell? ⟨M, 2, none⟩ = some (.pointer (some ⟨C, 0, none⟩))) (h1 : w.cell? ⟨N, 1, none⟩ = some (.int .u32 nd)) (h6 : w.cell? ⟨N, 6, none⟩ = some (.int .u8 sh))
   (g1 : w.cell? ⟨O, 1, none⟩ = some (.int .u32 nd')) (g6 : w.cell? ⟨O, 6, none⟩ = some (.int .u8 sh')) (g7 : w.cell? ⟨O, 7, none⟩ = some (.int .u8 rm)) (c1 : w.cell? ⟨C, 1, none⟩ = some (.int .u64 0)) (r : rm = 0 ∨ rm = 1) :
    Calls Yba.prog 4 #[.pointer (some ⟨N, 0, none⟩), .int .u64 ms, .pointer (some ⟨O, 0, none⟩)] w fun e w' => e = .returned (.bool false) ∧ ∃ q, w' = w.drewN q := by
  have hz := and_zero ms
  by_cases e1 : nd' = nd
  · by_cases e2 : sh' = sh
    · subst e1 e2
      rcases r with rfl | rfl
      · go_enter Yba.func4, Yba.ntmps4
        go_wp2
        go_quiet (fail)
        go_wp2
        go_ret
        exact ⟨rfl, _, rfl⟩
      · go_enter Yba.func4, Yba.ntmps4
        go_wp2
        go_quiet (fail)
        go_wp2
        go_ret
        exact ⟨rfl, _, rfl⟩
    · subst e1
      have hd : (sh' == sh) = false := by simpa using e2
      clear e2
      go_enter Yba.func4, Yba.ntmps4
      go_wp2
      go_quiet (fail)
      go_wp2
      go_ret
      exact ⟨rfl, _, rfl⟩
  · have hd : (nd' == nd) = false := by simpa using e1
    clear e1
    go_enter Yba.func4, Yba.ntmps4
    go_wp2
    go_quiet (fail)
    go_wp2
    go_ret
    exact ⟨rfl, _, rfl⟩
end Go.Proofs.Ybulkdroe
