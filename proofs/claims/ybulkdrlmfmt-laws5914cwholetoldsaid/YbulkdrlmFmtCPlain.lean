/-
  LawS5914CWhole: the plain mathematics: the samples, the limit, the first sample that does not fit. No walk.
-/
import Derived.Test.YbulkdrlmFmtCLeaf
import Derived.Laws.Bits128
import Derived.Deep.OwnRows
namespace Go.Proofs.YbulkdrlmFmt
open Go.RowKit

/-- The samples. -/
def Vs (sv first : Int) (R A : Nat → Int) : Nat → Int
  | 0 => (first + R 0) % 65536
  | k + 1 => (pF sv (Vs sv first R A k) (A (k + 1)) (A k) + R (k + 1)) % 65536

/-- What sample k is predicted as. -/
def prd (sv first : Int) (R A : Nat → Int) : Nat → Int
  | 0 => first
  | k + 1 => pF sv (Vs sv first R A k) (A (k + 1)) (A k)

theorem Vs_prd (sv first : Int) (R A : Nat → Int) (k : Nat) : Vs sv first R A k = (prd sv first R A k + R k) % 65536 := by
  cases k <;> rfl

theorem Vs_bd (sv first : Int) (R A : Nat → Int) (k : Nat) : 0 ≤ Vs sv first R A k ∧ Vs sv first R A k ≤ 65535 := by
  rw [Vs_prd]; omega

theorem and_low16 (n : Int) : bits .and .i64 n 65535 = n % 65536 := by
  have h16 : (BitVec.ofInt 64 65535).toNat = 2 ^ 16 - 1 := by decide
  have key : (BitVec.ofInt 64 n &&& BitVec.ofInt 64 65535).toNat = (n % ((2 ^ 64 : Nat) : Int)).toNat % 2 ^ 16 := by
    rw [BitVec.toNat_and, BitVec.toNat_ofInt, h16, Nat.and_two_pow_sub_one_eq_mod]
  show IntKind.i64.wrap ((BitVec.ofInt 64 n &&& BitVec.ofInt 64 65535).toNat : Nat) = n % 65536
  rw [key, IntKind.wrap_i64]
  omega

theorem wrap64_low16 (x : Int) : wrap64 x % 65536 = x % 65536 := by
  unfold wrap64; omega

theorem limit_fit (b v : Int) (h0 : 0 ≤ b) (h1 : b ≤ 255) (v0 : 0 ≤ v) (v1 : v ≤ 65535) : (wrap64 (wrap64 (2 ^ min b.toNat 64) - 1) < v) ↔ fitB b v = false := by
  obtain ⟨k, rfl⟩ := Int.eq_ofNat_of_zero_le h0
  simp only [Int.toNat_natCast]
  by_cases k64 : 64 ≤ k
  · have e : min k 64 = 64 := by omega
    rw [e]
    have : wrap64 (wrap64 (2 ^ 64) - 1) = -1 := by unfold wrap64; decide
    rw [this]
    have : ¬ ((k : Int) < 64) := by omega
    simp [fitB, this]
    omega
  · have e : min k 64 = k := by omega
    rw [e]
    have hlt : (k : Int) < 64 := by omega
    by_cases k63 : k = 63
    · subst k63
      have : wrap64 (wrap64 (2 ^ 63) - 1) = 9223372036854775807 := by unfold wrap64; decide
      rw [this]
      simp [fitB]
      omega
    · have hp : (0 : Int) < 2 ^ k := Int.pow_pos (by omega)
      have hq : (2 : Int) ^ k ≤ 2 ^ 62 := by
        have := Nat.pow_le_pow_right (show 0 < 2 by omega) (show k ≤ 62 by omega)
        exact_mod_cast this
      have hq' : (2 : Int) ^ k ≤ 4611686018427387904 := hq
      have w1 : wrap64 ((2 : Int) ^ k) = 2 ^ k := IntWalk.wrap64_in _ ⟨by omega, by omega⟩
      rw [w1, IntWalk.wrap64_in _ ⟨by omega, by omega⟩]
      by_cases k16 : 16 ≤ k
      · have hr : (2 : Int) ^ 16 ≤ 2 ^ k := by
          have := Nat.pow_le_pow_right (show 0 < 2 by omega) k16
          exact_mod_cast this
        have hr' : (65536 : Int) ≤ 2 ^ k := hr
        have : (16 : Int) ≤ (k : Int) := by omega
        simp [fitB, hlt, this]
        omega
      · have : ¬ (16 : Int) ≤ (k : Int) := by omega
        simp [fitB, hlt, this]
        omega

theorem and_wrap16 (u r : Int) : bits .and .i64 (wrap64 (u + r)) 65535 = (u + r) % 65536 := by
  rw [and_low16, wrap64_low16]

/-- i: the first of n that does not fit; n where all do. -/
structure Stops (fit : Nat → Bool) (n i : Nat) : Prop where
  le : i ≤ n
  all : ∀ j, j < i → fit j = true
  stop : i < n → fit i = false

theorem Stops.uniq {fit : Nat → Bool} {n i i' : Nat} (h : Stops fit n i) (h' : Stops fit n i') : i = i' := by
  rcases Nat.lt_trichotomy i i' with hl | he | hg
  · have h1 := h'.all i hl
    have h2 := h.stop (by have := h'.le; omega)
    rw [h1] at h2; cases h2
  · exact he
  · have h1 := h.all i' hg
    have h2 := h'.stop (by have := h.le; omega)
    rw [h1] at h2; cases h2

/-- The row behind i samples. -/
def Mix (V R : Nat → Int) (i j : Nat) : Value := .int .u16 (if j < i then V j else R j)

theorem Mix_zero (V R : Nat → Int) (j : Nat) : Mix V R 0 j = .int .u16 (R j) := by simp [Mix]
theorem Mix_at (V R : Nat → Int) (j : Nat) : Mix V R j j = .int .u16 (R j) := by simp [Mix]

/-- At most block b, of those that were there, has been written. -/
structure Wrote (b : Nat) (w w' : World) : Prop where
  os : w'.os = w.os
  tape : w'.tape = w.tape
  output : w'.output = w.output
  size : w.heap.size ≤ w'.heap.size
  block : ∀ k, k < w.heap.size → k ≠ b → w'.heap[k]? = w.heap[k]?

theorem Wrote.refl (b : Nat) (w : World) : Wrote b w w := ⟨rfl, rfl, rfl, Nat.le_refl _, fun _ _ _ => rfl⟩
theorem Wrote.trans {b : Nat} {w w' w'' : World} (h : Wrote b w w') (k : Wrote b w' w'') : Wrote b w w'' :=
  ⟨k.os.trans h.os, k.tape.trans h.tape, k.output.trans h.output, Nat.le_trans h.size k.size, fun i hi hb => (k.block i (Nat.lt_of_lt_of_le hi h.size) hb).trans (h.block i hi hb)⟩
theorem Wrote.of_below {b : Nat} {w w' : World} (h : Below w.heap.size w w') : Wrote b w w' := ⟨h.os, h.tape, h.output, h.size, fun k hk _ => h.block k hk⟩
theorem Wrote.setCell (b o : Nat) (w : World) (v : Value) : Wrote b w (w.setCell ⟨b, o, none⟩ v) :=
  ⟨rfl, rfl, rfl, by simp [World.setCell], fun k _ hb => Below.heap_setCell _ _ _ _ hb⟩
theorem Wrote.row {b : Nat} {w w' : World} (h : Wrote b w w') {c : Nat} {t : TypeId} {n : Nat} {f : Nat → Value} (hr : w.rowIs c t n f) (hc : c ≠ b) : w'.rowIs c t n f :=
  hr.of_block (h.block c hr.lt hc)
theorem Wrote.below {b B : Nat} {w0 w w' : World} (h : Wrote b w w') (hb : B ≤ b) (hB : Below B w0 w) (hs : B ≤ w.heap.size) : Below B w0 w' :=
  hB.trans ⟨h.os, h.tape, h.output, h.size, fun k hk => h.block k (by omega) (by omega)⟩

theorem Mix_step {V R : Nat → Int} {k g n : Nat} {t : TypeId} {w : World} (h : w.rowIs g t n (Mix V R k)) : (w.setCell ⟨g, k, none⟩ (.int .u16 (V k))).rowIs g t n (Mix V R (k + 1)) :=
  (h.set k _).congr fun i _ => by
    by_cases e : i = k
    · subst e; simp [Mix]
    · have : (i < k + 1) ↔ (i < k) := by omega
      simp [Mix, this, e]
end Go.Proofs.YbulkdrlmFmt
