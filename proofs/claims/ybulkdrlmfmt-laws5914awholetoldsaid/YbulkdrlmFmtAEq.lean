/-
  '!=' on pointers and on [4]*[64]uint16, both sides the same: false. (No law of the kit says it for a pointer that may be nil, nor for an array of pointers.)
-/
import Derived.Test.YbulkdrlmFmtLeaf
import Derived.LaidEqlPtr
namespace Go.Proofs.YbulkdrlmFmt
open Go.RowKit

theorem has29 : (Ybaf.prog.info? 29).isSome = true := by kernel_rfl
theorem has38 : (Ybaf.prog.info? 38).isSome = true := by kernel_rfl

theorem run_equalIn_ptr27 (d : Nat) (t : Option Addr) (w : World) : (Op.equalIn (d + 1) 27 (.pointer t) (.pointer t)).run Ybaf.prog w = .ok true w := by
  cases t with
  | none => simp [Op.equalIn, run_underlying Ybaf.underlying27]
  | some a =>
    obtain ⟨j, hj⟩ := Option.isSome_iff_exists.1 has29
    simp [Op.equalIn, run_underlying Ybaf.underlying27, sizeOf, typeInfo, hj, run_sameAddr_same]

theorem run_neq_ptr27 (t : Option Addr) (w : World) : (binOp .neq 27 (.pointer t) (.pointer t)).run Ybaf.prog w = .ok (.bool false) w := by
  simp only [binOp]
  simp [Op.equal, Op.maxDepth, run_equalIn_ptr27 9999]

theorem run_neq_ptr36 (a : Addr) (w : World) : (binOp .neq 36 (.pointer (some a)) (.pointer (some a))).run Ybaf.prog w = .ok (.bool false) w := by
  obtain ⟨j, hj⟩ := Option.isSome_iff_exists.1 has38
  have h : ∀ d : Nat, (Op.equalIn (d + 1) 36 (.pointer (some a)) (.pointer (some a))).run Ybaf.prog w = .ok true w := fun d => by
    simp [Op.equalIn, run_underlying Ybaf.underlying36, sizeOf, typeInfo, hj, run_sameAddr_same]
  simp only [binOp]
  simp [Op.equal, Op.maxDepth, h 9999]

theorem part0 (a b c e : Value) (w : World) : (part 27 #[a, b, c, e] 0).run Ybaf.prog w = .ok a w := by kernel_rfl
theorem part1 (a b c e : Value) (w : World) : (part 27 #[a, b, c, e] 1).run Ybaf.prog w = .ok b w := by kernel_rfl
theorem part2 (a b c e : Value) (w : World) : (part 27 #[a, b, c, e] 2).run Ybaf.prog w = .ok c w := by kernel_rfl
theorem part3 (a b c e : Value) (w : World) : (part 27 #[a, b, c, e] 3).run Ybaf.prog w = .ok e w := by kernel_rfl

theorem run_equalIn_tabs (d : Nat) (t0 t1 t2 t3 : Option Addr) (w : World) :
    (Op.equalIn (d + 2) 28 (.agg #[.pointer t0, .pointer t1, .pointer t2, .pointer t3]) (.agg #[.pointer t0, .pointer t1, .pointer t2, .pointer t3])).run Ybaf.prog w = .ok true w := by
  rw [Op.equalIn]
  have q0 := run_equalIn_ptr27 d t0 w
  have q1 := run_equalIn_ptr27 d t1 w
  have q2 := run_equalIn_ptr27 d t2 w
  have q3 := run_equalIn_ptr27 d t3 w
  have r : List.range' 0 4 = [0, 1, 2, 3] := rfl
  simp [run_underlying Ybaf.underlying28, r, q0, q1, q2, q3, part0, part1, part2, part3]

theorem run_neq_tabs (t0 t1 t2 t3 : Option Addr) (w : World) :
    (binOp .neq 28 (.agg #[.pointer t0, .pointer t1, .pointer t2, .pointer t3]) (.agg #[.pointer t0, .pointer t1, .pointer t2, .pointer t3])).run Ybaf.prog w = .ok (.bool false) w := by
  simp only [binOp]
  simp [Op.equal, Op.maxDepth, run_equalIn_tabs 9998]
end Go.Proofs.YbulkdrlmFmt
