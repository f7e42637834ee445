/-
  == and != on pointers and on the structs lock, entryMore, both sides the same.
-/
import Derived.Test.YbulkdroeHolds
namespace Go.Proofs.Ybulkdroe
open Go.RowKit

theorem has47 : (Yba.prog.info? 47).isSome = true := by kernel_rfl
theorem has59 : (Yba.prog.info? 59).isSome = true := by kernel_rfl
theorem has62 : (Yba.prog.info? 62).isSome = true := by kernel_rfl
theorem has85 : (Yba.prog.info? 85).isSome = true := by kernel_rfl

/-- '==' of a pointer with itself, nil or not. -/
theorem run_equalIn_ptr {tp te : TypeId} (hp : Yba.prog.underlying tp = some (.pointer te)) (hs : (Yba.prog.info? te).isSome = true) (d : Nat) (t : Option Addr) (w : World) : (Op.equalIn (d + 1) tp (.pointer t) (.pointer t)).run Yba.prog w = .ok true w := by
  cases t with
  | none => simp [Op.equalIn, run_underlying hp]
  | some a =>
    obtain ⟨j, hj⟩ := Option.isSome_iff_exists.1 hs
    simp [Op.equalIn, run_underlying hp, sizeOf, typeInfo, hj, run_sameAddr_same]

theorem run_neq_ptr {tp te : TypeId} (hp : Yba.prog.underlying tp = some (.pointer te)) (hs : (Yba.prog.info? te).isSome = true) (t : Option Addr) (w : World) : (binOp .neq tp (.pointer t) (.pointer t)).run Yba.prog w = .ok (.bool false) w := by
  simp only [binOp]
  simp [Op.equal, Op.maxDepth, run_equalIn_ptr hp hs 9999]

theorem neq49 (t : Option Addr) (w : World) : (binOp .neq 49 (.pointer t) (.pointer t)).run Yba.prog w = .ok (.bool false) w := run_neq_ptr Yba.underlying49 has59 t w
theorem neq52 (t : Option Addr) (w : World) : (binOp .neq 52 (.pointer t) (.pointer t)).run Yba.prog w = .ok (.bool false) w := run_neq_ptr Yba.underlying52 has85 t w
theorem neq73 (t : Option Addr) (w : World) : (binOp .neq 73 (.pointer t) (.pointer t)).run Yba.prog w = .ok (.bool false) w := run_neq_ptr Yba.underlying73 has62 t w

theorem neq73_nil (a : Addr) (w : World) : (binOp .neq 73 (.pointer (some a)) (.pointer none)).run Yba.prog w = .ok (.bool true) w := by
  have h : ∀ d : Nat, (Op.equalIn (d + 1) 73 (.pointer (some a)) (.pointer none)).run Yba.prog w = .ok false w := fun d => by
    simp [Op.equalIn, run_underlying Yba.underlying73]
  simp only [binOp]
  simp [Op.equal, Op.maxDepth, h 9999]

theorem neq73_other {a b : Addr} {ca cb : Array Value} {ta tb : TypeId} (w : World) (hne : a ≠ b) (ha : w.heap[a.block]? = some (.cells ca ta (0, 0))) (hb : w.heap[b.block]? = some (.cells cb tb (0, 0))) :
    (binOp .neq 73 (.pointer (some a)) (.pointer (some b))).run Yba.prog w = .ok (.bool true) w := by
  have hsz : (Yba.prog.info? 62).map (·.size) = some 8 := by kernel_rfl
  obtain ⟨j, hj, hs⟩ := Option.map_eq_some_iff.1 hsz
  have h : ∀ d : Nat, (Op.equalIn (d + 1) 73 (.pointer (some a)) (.pointer (some b))).run Yba.prog w = .ok false w := fun d => by
    simp [Op.equalIn, run_underlying Yba.underlying73, sizeOf, typeInfo, hj, hs, run_sameAddr_other w hne ha hb]
  simp only [binOp]
  simp [Op.equal, Op.maxDepth, h 9999]

theorem lpart0 (v0 v1 v2 v3 v4 v5 v6 v7 : Value) (w : World) : (part 24 #[v0, v1, v2, v3, v4, v5, v6, v7] 0).run Yba.prog w = .ok v0 w := by kernel_rfl
theorem lpart1 (v0 v1 v2 v3 v4 v5 v6 v7 : Value) (w : World) : (part 60 #[v0, v1, v2, v3, v4, v5, v6, v7] 1).run Yba.prog w = .ok v1 w := by kernel_rfl
theorem lpart2 (v0 v1 v2 v3 v4 v5 v6 v7 : Value) (w : World) : (part 60 #[v0, v1, v2, v3, v4, v5, v6, v7] 2).run Yba.prog w = .ok v2 w := by kernel_rfl
theorem lpart3 (v0 v1 v2 v3 v4 v5 v6 v7 : Value) (w : World) : (part 23 #[v0, v1, v2, v3, v4, v5, v6, v7] 3).run Yba.prog w = .ok v3 w := by kernel_rfl
theorem lpart4 (v0 v1 v2 v3 v4 v5 v6 v7 : Value) (w : World) : (part 5 #[v0, v1, v2, v3, v4, v5, v6, v7] 4).run Yba.prog w = .ok v4 w := by kernel_rfl
theorem lpart5 (v0 v1 v2 v3 v4 v5 v6 v7 : Value) (w : World) : (part 5 #[v0, v1, v2, v3, v4, v5, v6, v7] 5).run Yba.prog w = .ok v5 w := by kernel_rfl
theorem lpart6 (v0 v1 v2 v3 v4 v5 v6 v7 : Value) (w : World) : (part 5 #[v0, v1, v2, v3, v4, v5, v6, v7] 6).run Yba.prog w = .ok v6 w := by kernel_rfl
theorem lpart7 (v0 v1 v2 v3 v4 v5 v6 v7 : Value) (w : World) : (part 5 #[v0, v1, v2, v3, v4, v5, v6, v7] 7).run Yba.prog w = .ok v7 w := by kernel_rfl

theorem equalIn_lock (d : Nat) (o : Option Addr) (a b c e f g h : Int) (w : World) :
    (Op.equalIn (d + 2) 62 (.agg #[.pointer o, .int .u32 a, .int .u32 b, .int .u32 c, .int .u8 e, .int .u8 f, .int .u8 g, .int .u8 h]) (.agg #[.pointer o, .int .u32 a, .int .u32 b, .int .u32 c, .int .u8 e, .int .u8 f, .int .u8 g, .int .u8 h])).run Yba.prog w = .ok true w := by
  have q := run_equalIn_ptr Yba.underlying24 has47 d o w
  have i60 : ∀ x : Int, (Op.equalIn (d + 1) 60 (.int .u32 x) (.int .u32 x)).run Yba.prog w = .ok true w := fun x => by simp [Op.equalIn, run_underlying Yba.underlying60]
  have i23 : ∀ x : Int, (Op.equalIn (d + 1) 23 (.int .u32 x) (.int .u32 x)).run Yba.prog w = .ok true w := fun x => by simp [Op.equalIn, run_underlying Yba.underlying23]
  have i5 : ∀ x : Int, (Op.equalIn (d + 1) 5 (.int .u8 x) (.int .u8 x)).run Yba.prog w = .ok true w := fun x => by simp [Op.equalIn, run_underlying Yba.underlying5]
  rw [Op.equalIn]
  simp [run_underlying Yba.underlying62, q, lpart0, lpart1, lpart2, lpart3, lpart4, lpart5, lpart6, lpart7, i60, i23, i5]

theorem neq62 (o : Option Addr) (a b c e f g h : Int) (w : World) :
    (binOp .neq 62 (.agg #[.pointer o, .int .u32 a, .int .u32 b, .int .u32 c, .int .u8 e, .int .u8 f, .int .u8 g, .int .u8 h]) (.agg #[.pointer o, .int .u32 a, .int .u32 b, .int .u32 c, .int .u8 e, .int .u8 f, .int .u8 g, .int .u8 h])).run Yba.prog w = .ok (.bool false) w := by
  simp only [binOp]
  simp [Op.equal, Op.maxDepth, equalIn_lock 9998]

theorem eql62 (o : Option Addr) (a b c e f g h : Int) (w : World) :
    (binOp .eql 62 (.agg #[.pointer o, .int .u32 a, .int .u32 b, .int .u32 c, .int .u8 e, .int .u8 f, .int .u8 g, .int .u8 h]) (.agg #[.pointer o, .int .u32 a, .int .u32 b, .int .u32 c, .int .u8 e, .int .u8 f, .int .u8 g, .int .u8 h])).run Yba.prog w = .ok (.bool true) w := by
  simp only [binOp]
  simp [Op.equal, Op.maxDepth, equalIn_lock 9998]

theorem mpart0 (v0 v1 v2 v3 v4 v5 v6 v7 v8 v9 : Value) (w : World) : (part 50 #[v0, v1, v2, v3, v4, v5, v6, v7, v8, v9] 0).run Yba.prog w = .ok v0 w := by kernel_rfl
theorem mpart1 (v0 v1 v2 v3 v4 v5 v6 v7 v8 v9 : Value) (w : World) : (part 51 #[v0, v1, v2, v3, v4, v5, v6, v7, v8, v9] 1).run Yba.prog w = .ok v1 w := by kernel_rfl
theorem mpart2 (v0 v1 v2 v3 v4 v5 v6 v7 v8 v9 : Value) (w : World) : (part 52 #[v0, v1, v2, v3, v4, v5, v6, v7, v8, v9] 2).run Yba.prog w = .ok v2 w := by kernel_rfl
theorem mpart3 (v0 v1 v2 v3 v4 v5 v6 v7 v8 v9 : Value) (w : World) : (part 53 #[v0, v1, v2, v3, v4, v5, v6, v7, v8, v9] 3).run Yba.prog w = .ok v3 w := by kernel_rfl
theorem mpart9 (v0 v1 v2 v3 v4 v5 v6 v7 v8 v9 : Value) (w : World) : (part 22 #[v0, v1, v2, v3, v4, v5, v6, v7, v8, v9] 9).run Yba.prog w = .ok v9 w := by kernel_rfl
theorem mpart4 (v0 v1 v2 v3 v4 v5 v6 v7 v8 v9 : Value) (w : World) : (part 57 #[v0, v1, v2, v3, v4, v5, v6, v7, v8, v9] 4).run Yba.prog w = .ok (.agg #[v4, v5, v6, v7, v8]) w := by kernel_rfl

theorem eqnil {tp te : TypeId} (hp : Yba.prog.underlying tp = some (.pointer te)) (d : Nat) (w : World) : (Op.equalIn (d + 1) tp (.pointer none) (.pointer none)).run Yba.prog w = .ok true w := by
  simp [Op.equalIn, run_underlying hp]
theorem eq22 (d : Nat) (w : World) : (Op.equalIn (d + 1) 22 (.int .u64 0) (.int .u64 0)).run Yba.prog w = .ok true w := by
  simp [Op.equalIn, run_underlying Yba.underlying22]
theorem eq57 (w : World) : (Op.equalIn 9999 57 (.agg #[.int .u32 0, .int .u32 0, .int .u32 0, .int .u32 0, .int .u64 0]) (.agg #[.int .u32 0, .int .u32 0, .int .u32 0, .int .u32 0, .int .u64 0])).run Yba.prog w = .ok true w := by kernel_rfl

def zeroTally : Value := .agg #[.int .u32 0, .int .u32 0, .int .u32 0, .int .u32 0, .int .u64 0]
theorem mpart4' (c : Option Addr) (w : World) : (part 57 #[.pointer none, .pointer none, .pointer c, .pointer none, .int .u32 0, .int .u32 0, .int .u32 0, .int .u32 0, .int .u64 0, .int .u64 0] 4).run Yba.prog w = .ok zeroTally w := by kernel_rfl
theorem eq57' (w : World) : (Op.equalIn 9999 57 zeroTally zeroTally).run Yba.prog w = .ok true w := eq57 w

set_option maxHeartbeats 2000000 in
theorem equalIn_more (c : Option Addr) (w : World) :
    (Op.equalIn 10000 59 (.agg #[.pointer none, .pointer none, .pointer c, .pointer none, .int .u32 0, .int .u32 0, .int .u32 0, .int .u32 0, .int .u64 0, .int .u64 0]) (.agg #[.pointer none, .pointer none, .pointer c, .pointer none, .int .u32 0, .int .u32 0, .int .u32 0, .int .u32 0, .int .u64 0, .int .u64 0])).run Yba.prog w = .ok true w := by
  have q := run_equalIn_ptr Yba.underlying52 has85 9998 c w
  have n50 := eqnil Yba.underlying50 9998 w
  have n51 := eqnil Yba.underlying51 9998 w
  have n53 := eqnil Yba.underlying53 9998 w
  have n22 := eq22 9998 w
  have n57 := eq57' w
  rw [Op.equalIn]
  simp only [run_underlying Yba.underlying59, Sem.run_bind, Result.andThen_ok]
  simp [q, mpart0, mpart1, mpart2, mpart3, mpart4', mpart9, n50, n51, n53, n22, n57]

theorem neq59 (c : Option Addr) (w : World) :
    (binOp .neq 59 (.agg #[.pointer none, .pointer none, .pointer c, .pointer none, .int .u32 0, .int .u32 0, .int .u32 0, .int .u32 0, .int .u64 0, .int .u64 0]) (.agg #[.pointer none, .pointer none, .pointer c, .pointer none, .int .u32 0, .int .u32 0, .int .u32 0, .int .u32 0, .int .u64 0, .int .u64 0])).run Yba.prog w = .ok (.bool false) w := by
  simp only [binOp]
  simp [Op.equal, Op.maxDepth, equalIn_more]
end Go.Proofs.Ybulkdroe
