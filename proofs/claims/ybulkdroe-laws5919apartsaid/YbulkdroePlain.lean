/-
  The plain arithmetic of has; two pointers into two new blocks.
-/
import Derived.Test.YbulkdroeEq
import Derived.Laws.BitsAllLaws
import Derived.Deep.OwnRows
namespace Go.Proofs.Ybulkdroe
open Go.RowKit Go.Deep

theorem wrap_pow (k : Nat) (h : k < 64) : IntKind.u64.wrap (2 ^ min k 64) = ((2 ^ k : Nat) : Int) := by
  have e : min k 64 = k := by omega
  rw [e, IntKind.wrap_u64]
  have h1 : 2 ^ k ≤ 2 ^ 63 := Nat.pow_le_pow_right (by omega) (by omega)
  have h2 : (2 : Nat) ^ 63 = 9223372036854775808 := by decide
  have h3 : ((2 : Int) ^ k) = ((2 ^ k : Nat) : Int) := by simp
  rw [h3]
  generalize 2 ^ k = b at h1 h2 ⊢
  omega

theorem and_pow_zero (x k : Nat) : (x &&& 2 ^ k) = 0 ↔ x.testBit k = false := by
  constructor
  · intro h
    have := congrArg (fun y => Nat.testBit y k) h
    simpa [Nat.testBit_and, Nat.testBit_two_pow] using this
  · intro h
    apply Nat.eq_of_testBit_eq
    intro i
    by_cases e : k = i
    · subst e; simp [Nat.testBit_and, h]
    · simp [Nat.testBit_and, e]

/-- 'modes & (1 << mode) != 0' is '(modes >> mode) & 1 == 1', mode below 64. -/
theorem has_shift (ms md : Int) (m0 : 0 ≤ ms) (m1 : ms ≤ 18446744073709551615) (d0 : 0 ≤ md) (d1 : md < 64) : (bits BinOp.and IntKind.u64 (ms / 2 ^ md.toNat) 1 == 1) = hasB ms md := by
  obtain ⟨x, rfl⟩ := Int.eq_ofNat_of_zero_le m0
  obtain ⟨k, rfl⟩ := Int.eq_ofNat_of_zero_le d0
  unfold hasB
  simp only [Int.toNat_natCast]
  have hk : k < 64 := by omega
  have h1 : 2 ^ k ≤ 2 ^ 63 := Nat.pow_le_pow_right (by omega) (by omega)
  have h2 : (2 : Nat) ^ 63 = 9223372036854775808 := by decide
  rw [wrap_pow k hk, u64_and_nat x (2 ^ k) (by omega) (by omega)]
  have e1 : (x : Int) / 2 ^ k = ((x / 2 ^ k : Nat) : Int) := by simp
  have hle : x / 2 ^ k ≤ x := Nat.div_le_self _ _
  have e3 := u64_and_nat (x / 2 ^ k) 1 (by omega) (by omega)
  rw [e1]
  rw [show ((1 : Nat) : Int) = 1 from rfl] at e3
  rw [e3, Nat.and_one_is_mod]
  have ht : x.testBit k = decide (x / 2 ^ k % 2 = 1) := Nat.testBit_eq_decide_div_mod_eq
  have hz := and_pow_zero x k
  rw [ht] at hz
  generalize x &&& 2 ^ k = y at hz ⊢
  generalize x / 2 ^ k % 2 = r at hz ⊢
  rw [Bool.eq_iff_iff]
  simp only [beq_iff_eq, bne_iff_ne, ne_eq]
  simp only [decide_eq_false_iff_not] at hz
  omega

theorem has_no (ms md : Int) (m0 : 0 ≤ ms) (m1 : ms ≤ 18446744073709551615) (d1 : 64 ≤ md) : hasB ms md = false := by
  obtain ⟨x, rfl⟩ := Int.eq_ofNat_of_zero_le m0
  unfold hasB
  have e : min md.toNat 64 = 64 := by omega
  have w0 : IntKind.u64.wrap (2 ^ 64) = ((0 : Nat) : Int) := by decide
  rw [e, w0, u64_and_nat x 0 (by omega) (by omega)]
  simp
theorem neq73_seven (w : World) (o1 o2 o5 o6 o7 : Obj) (cn co : Array Value) (tn to_ : TypeId) :
    (binOp .neq 73 (.pointer (some ⟨w.heap.size + 1 + 1, 0, none⟩)) (.pointer (some ⟨w.heap.size + 1 + 1 + 1, 0, none⟩))).run Yba.prog (((((((w.alloc o1).alloc o2).alloc (.cells cn tn)).alloc (.cells co to_)).alloc o5).alloc o6).alloc o7) =
      .ok (.bool true) (((((((w.alloc o1).alloc o2).alloc (.cells cn tn)).alloc (.cells co to_)).alloc o5).alloc o6).alloc o7) := by
  have s2 : ((w.alloc o1).alloc o2).heap.size = w.heap.size + 1 + 1 := by simp
  have s3 : (((w.alloc o1).alloc o2).alloc (.cells cn tn)).heap.size = w.heap.size + 1 + 1 + 1 := by simp
  refine neq73_other (ca := cn) (cb := co) (ta := tn) (tb := to_) _ (by simp) ?_ ?_
  · show (((((((w.alloc o1).alloc o2).alloc (.cells cn tn)).alloc (.cells co to_)).alloc o5).alloc o6).alloc o7).heap[w.heap.size + 1 + 1]? = _
    rw [blk_alloc_lt _ _ _ (by simp), blk_alloc_lt _ _ _ (by simp), blk_alloc_lt _ _ _ (by simp), blk_alloc_lt _ _ _ (by simp), ← s2]
    exact blk_alloc_new _ _
  · show (((((((w.alloc o1).alloc o2).alloc (.cells cn tn)).alloc (.cells co to_)).alloc o5).alloc o6).alloc o7).heap[w.heap.size + 1 + 1 + 1]? = _
    rw [blk_alloc_lt _ _ _ (by simp), blk_alloc_lt _ _ _ (by simp), blk_alloc_lt _ _ _ (by simp), ← s3]
    exact blk_alloc_new _ _

end Go.Proofs.Ybulkdroe
