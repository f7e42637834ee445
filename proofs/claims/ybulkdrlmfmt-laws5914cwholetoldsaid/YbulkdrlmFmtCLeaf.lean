/-
  LawS5914CWhole: the predictions and the error, by their contracts.
-/
import Derived.Test.YbulkdrlmFmtLeaf
import Derived.Handy
namespace Go.Proofs.YbulkdrlmFmt
open Go.RowKit Go.Extern.Stop Go.Stop Go.Extern

theorem ret_int {k : IntKind} {a b : Int} (h : a = b) : Ending.returned (.int k a) = .returned (.int k b) := by rw [h]

/-- T.81 Table H.1. -/
def pF (sv ra rb rc : Int) : Int :=
  if (sv == 1) = true then ra else if (sv == 2) = true then rb else if (sv == 3) = true then rc else if (sv == 4) = true then ra + rb - rc
  else if (sv == 5) = true then ra + (rb - rc) / 2 else if (sv == 6) = true then rb + (ra - rc) / 2 else (ra + rb) / 2

theorem pF_bd (sv ra rb rc : Int) (a0 : 0 ≤ ra) (a1 : ra ≤ 65535) (b0 : 0 ≤ rb) (b1 : rb ≤ 65535) (c0 : 0 ≤ rc) (c1 : rc ≤ 65535) : -65536 ≤ pF sv ra rb rc ∧ pF sv ra rb rc ≤ 131070 := by
  unfold pF
  repeat' split
  all_goals omega

theorem half_any (x : Int) (w : World) (h0 : -200000 ≤ x) (h : x ≤ 200000) :
    Calls Ybaf.prog 11 #[.int .i64 x] w fun e w' => e = .returned (.int .i64 (x / 2)) ∧ w' = w := by
  by_cases hx : 0 ≤ x
  · go_enter Ybaf.func11, Ybaf.ntmps11
    go_wp2
    go_ret
    exact ⟨rfl, rfl⟩
  · have hx' : x < 0 := by omega
    clear hx
    go_enter Ybaf.func11, Ybaf.ntmps11
    go_wp2
    go_ret
    exact ⟨ret_int (by omega), rfl⟩

theorem predict_any (sv ra rb rc : Int) (w : World) (a0 : 0 ≤ ra) (a1 : ra ≤ 65535) (b0 : 0 ≤ rb) (b1 : rb ≤ 65535) (c0 : 0 ≤ rc) (c1 : rc ≤ 65535) :
    Calls Ybaf.prog 13 #[.int .i64 sv, .int .i64 ra, .int .i64 rb, .int .i64 rc] w fun e w' => e = .returned (.int .i64 (pF sv ra rb rc)) ∧ w' = w := by
  go_enter Ybaf.func13, Ybaf.ntmps13
  go_wp2
  all_goals go_ret
  all_goals exact ⟨ret_int (by simp [pF, *]), rfl⟩

theorem cpred_any (sv ra rb rc : Int) (w : World) (a0 : 0 ≤ ra) (a1 : ra ≤ 65535) (b0 : 0 ≤ rb) (b1 : rb ≤ 65535) (c0 : 0 ≤ rc) (c1 : rc ≤ 65535) :
    Calls Ybaf.prog 7 #[.int .i64 sv, .int .i64 ra, .int .i64 rb, .int .i64 rc] w fun e w' => e = .returned (.int .i64 (pF sv ra rb rc)) ∧ w' = w := by
  go_enter Ybaf.func7, Ybaf.ntmps7
  go_wp2_with (go_at_call 11; refine (half_any _ _ (by omega) (by omega)).mono ?_; rintro e w' ⟨rfl, rfl⟩)
  all_goals go_ret
  all_goals exact ⟨ret_int (by simp [pF, *]), rfl⟩

theorem large_any (F : Interp) (v b : Int) (w : World) (hF : F.answers w.tape) :
    Calls Ybaf.prog 12 #[.int .i64 v, .int .i64 b] w fun e w' => (∃ a, e = .returned (.iface 74 (.pointer (some a)))) ∧ Below w.heap.size w w' := by
  go_enter Ybaf.func12, Ybaf.ntmps12
  go_wp2_with fail
  refine (errorf_large F v b _ _ (by exact hF) (by go_simp) (by go_simp)).mono ?_
  rintro e w' ⟨rfl, s, rfl⟩
  go_wp2
  go_ret
  exact ⟨⟨_, rfl⟩, Below.drew (Below.alloc (Below.alloc (Below.refl _ _) (Nat.le_refl _) _) (by simp) _)⟩

/-- Does a sample fit in so many bits? -/
def fitB (bits v : Int) : Bool := decide (bits < 64) && (decide (16 ≤ bits) || decide (v < 2 ^ bits.toNat))
end Go.Proofs.YbulkdrlmFmt
