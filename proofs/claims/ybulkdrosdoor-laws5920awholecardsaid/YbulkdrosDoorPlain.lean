/-
  LawS5920AWhole: the plain laws (no Go here): what zzs5920amodel and zzs5920afmt compute, held against the shelf's functions of strconv.
-/
import Derived.Lib.ParseIntB
import Derived.Lib.ItoaMem
import Derived.Lib.ItoaLen
namespace Go.Proofs.YbulkdrosDoor

/-- What the model's loop leaves: none: a byte that is no digit; else whether the number is over a uint64, and the number. -/
def mg (over : Bool) (acc : Nat) : List UInt8 → Option (Bool × Nat)
  | [] => some (over, acc)
  | c :: r =>
    if 48 ≤ c.toNat ∧ c.toNat ≤ 57 then
      if over = true then mg true acc r
      else if (18446744073709551615 - (c.toNat - 48)) / 10 < acc then mg true acc r
      else mg false (acc * 10 + (c.toNat - 48)) r
    else none

theorem mg_true : ∀ (l : List UInt8) (acc : Nat) (x : Bool × Nat), mg true acc l = some x → x.1 = true
  | [], acc, x, h => by simp [mg] at h; rw [← h]
  | c :: r, acc, x, h => by
    unfold mg at h
    split at h
    · simp at h; exact mg_true r acc x h
    · cases h

theorem mg_ok : ∀ (l : List UInt8) (acc : Nat), acc < 18446744073709551616 → ∀ u, Lib.parseUintM 18446744073709551615 acc l = .ok u ↔ mg false acc l = some (false, u)
  | [], acc, _, u => by simp [mg, Lib.parseUintM]
  | c :: r, acc, ha, u => by
    unfold mg Lib.parseUintM
    by_cases hd : 48 ≤ c.toNat ∧ c.toNat ≤ 57
    · rw [if_pos hd, if_pos hd, if_neg (show ¬ (false = true) by decide)]
      by_cases hb : (18446744073709551615 - (c.toNat - 48)) / 10 < acc
      · rw [if_pos hb]
        have hm : ¬ mg true acc r = some (false, u) := fun h => by simpa using mg_true _ _ _ h
        constructor
        · intro h
          split at h
          · cases h
          · rw [if_pos (by omega)] at h; cases h
        · exact fun h => absurd h hm
      · rw [if_neg hb, if_neg (by omega), if_neg (by omega)]
        exact mg_ok r _ (by omega) u
    · rw [if_neg hd, if_neg hd]; simp

theorem mg_lt : ∀ (l : List UInt8) (acc : Nat), acc < 18446744073709551616 → ∀ o u x, mg o acc l = some (x, u) → u < 18446744073709551616
  | [], acc, ha, o, u, x, h => by simp [mg] at h; omega
  | c :: r, acc, ha, o, u, x, h => by
    unfold mg at h
    split at h
    · split at h
      · exact mg_lt r _ ha _ _ _ h
      · split at h
        · exact mg_lt r _ ha _ _ _ h
        · exact mg_lt r _ (by omega) _ _ _ h
    · cases h

/-- The value that strconv.ParseInt(.., 10, 64) reads, if it reads one. -/
def mval (l : List UInt8) : Option Int := match Lib.parseIntB 64 l with | .ok v => some v | _ => none

theorem mval_some {l : List UInt8} {v : Int} : mval l = some v ↔ Lib.parseIntB 64 l = .ok v := by
  unfold mval
  cases Lib.parseIntB 64 l <;> simp

theorem mval_none {l : List UInt8} : mval l = none ↔ ∀ v, Lib.parseIntB 64 l ≠ .ok v := by
  unfold mval
  cases Lib.parseIntB 64 l <;> simp

/-- Where the digits begin. -/
def sg (c : UInt8) : Nat := if c.toNat = 43 ∨ c.toNat = 45 then 1 else 0

def ends (ng : Bool) : Option (Bool × Nat) → Option Int
  | some (false, u) => if ng = true then (if 9223372036854775808 < u then none else some (-(u : Int))) else (if 9223372036854775807 < u then none else some (u : Int))
  | _ => none

theorem uint_mg (l : List UInt8) (h : l ≠ []) (u : Nat) : Lib.parseUintB 64 l = .ok u ↔ mg false 0 l = some (false, u) := by
  unfold Lib.parseUintB
  rw [if_neg h]
  exact mg_ok l 0 (by decide) u

theorem mval_nil : mval [] = none := rfl

theorem mval_cons (c : UInt8) (r : List UInt8) : mval (c :: r) = if (c :: r).drop (sg c) = [] then none else ends (decide (c.toNat = 45)) (mg false 0 ((c :: r).drop (sg c))) := by
  have hl : (if c.toNat = 43 ∨ c.toNat = 45 then r else c :: r) = (c :: r).drop (sg c) := by
    unfold sg; split <;> simp
  unfold mval Lib.parseIntB
  simp only [hl]
  by_cases he : (c :: r).drop (sg c) = []
  · rw [if_pos he, he]; simp [Lib.parseUintB]
  · rw [if_neg he]
    have hu := uint_mg _ he
    cases hp : Lib.parseUintB 64 ((c :: r).drop (sg c)) with
    | ok u =>
      rw [(hu u).1 hp]
      simp only [ends]
      by_cases h45 : c.toNat = 45
      · simp only [h45, not_true, false_and, if_false, true_and, decide_true, if_true]
        by_cases hb : 9223372036854775808 < u
        · rw [if_pos hb, if_pos (by simpa using hb)]
        · rw [if_neg hb, if_neg (by simpa using hb)]
      · simp only [h45, not_false_eq_true, true_and, false_and, if_false, decide_false]
        by_cases hb : 9223372036854775807 < u
        · rw [if_pos (show 2 ^ (64 - 1) ≤ u by simp; omega)]; simp [hb]
        · rw [if_neg (show ¬ 2 ^ (64 - 1) ≤ u by simp; omega)]; simp [hb]
    | _ =>
      have hno : ∀ u, mg false 0 ((c :: r).drop (sg c)) ≠ some (false, u) := fun u h => by
        have := (hu u).2 h
        rw [hp] at this
        cases this
      cases hm : mg false 0 ((c :: r).drop (sg c)) with
      | none => rfl
      | some x =>
        obtain ⟨o, u⟩ := x
        cases o with
        | false => exact absurd hm (hno u)
        | true => rfl

theorem mval_range {l : List UInt8} {v : Int} (h : mval l = some v) : -9223372036854775808 ≤ v ∧ v ≤ 9223372036854775807 := by
  cases l with
  | nil => cases h
  | cons c r =>
    rw [mval_cons] at h
    split at h
    · cases h
    · unfold ends at h
      split at h
      · split at h <;> split at h <;> simp at h <;> omega
      · cases h

/-! ### The numeral -/

theorem uintM_snoc (M : Nat) : ∀ (l : List UInt8) (acc a : Nat) (c : UInt8), Lib.parseUintM M acc l = .ok a → Lib.parseUintM M acc (l ++ [c]) = Lib.parseUintM M a [c]
  | [], acc, a, c, h => by
    simp [Lib.parseUintM] at h
    rw [h]; rfl
  | b :: r, acc, a, c, h => by
    unfold Lib.parseUintM at h
    rw [List.cons_append]
    rw [Lib.parseUintM.eq_2]
    split at h
    · rename_i hd
      rw [if_pos hd]
      split at h
      · cases h
      · rename_i h1
        rw [if_neg h1]
        split at h
        · cases h
        · rename_i h2
          rw [if_neg h2]
          exact uintM_snoc M r _ a c h
    · cases h

theorem byte_nat (k : Nat) (h : k < 10) : (UInt8.ofNat (48 + k)).toNat = 48 + k := by
  simp; omega

theorem uintM_dec : ∀ (u : Nat), u < 18446744073709551616 → Lib.parseUintM 18446744073709551615 0 (Lib.decDigits u) = .ok u := by
  intro u
  induction u using Nat.strongRecOn with
  | ind u ih =>
    intro hu
    rw [Lib.decDigits]
    split
    · rename_i h
      have e := byte_nat u h
      unfold Lib.parseUintM
      rw [e, if_pos (by omega), if_neg (by omega), if_neg (by omega)]
      simp [Lib.parseUintM]
    · rename_i h
      rw [uintM_snoc _ _ _ _ _ (ih (u / 10) (by omega) (by omega))]
      have e := byte_nat (u % 10) (by omega)
      unfold Lib.parseUintM
      rw [e, if_pos (by omega), if_neg (by omega), if_neg (by omega)]
      simp only [Lib.parseUintM]
      congr 1
      omega

theorem dec_cons (u : Nat) (hu : u < 18446744073709551616) : ∃ c r, Lib.decDigits u = c :: r ∧ c.toNat ≠ 43 ∧ c.toNat ≠ 45 := by
  have h := uintM_dec u hu
  cases hd : Lib.decDigits u with
  | nil => have := Lib.decDigits_length u; have := Lib.nDigits_pos u; rw [hd] at *; simp at *; omega
  | cons c r =>
    rw [hd] at h
    unfold Lib.parseUintM at h
    split at h
    · rename_i hc; exact ⟨c, r, rfl, by omega, by omega⟩
    · cases h

theorem mval_itoa (n : Int) (h0 : -9223372036854775808 ≤ n) (h1 : n ≤ 9223372036854775807) : mval (Lib.itoa n) = some n := by
  by_cases hn : n < 0
  · obtain ⟨u, rfl⟩ : ∃ u : Nat, n = -(u : Int) := ⟨n.natAbs, by omega⟩
    rw [Lib.itoa_neg u (by omega), mval_cons]
    obtain ⟨c, r, e, _, _⟩ := dec_cons u (by omega)
    have hs : sg 45 = 1 := rfl
    rw [hs, List.drop_one, List.tail_cons, if_neg (by rw [e]; simp), (mg_ok _ 0 (by decide) u).1 (uintM_dec u (by omega))]
    simp [ends]; omega
  · obtain ⟨u, rfl⟩ : ∃ u : Nat, n = (u : Int) := ⟨n.toNat, by omega⟩
    rw [Lib.itoa_nonneg]
    obtain ⟨c, r, e, h43, h45⟩ := dec_cons u (by omega)
    have hm := (mg_ok _ 0 (by decide) u).1 (uintM_dec u (by omega))
    rw [e] at hm ⊢
    rw [mval_cons]
    have hs : sg c = 0 := by simp [sg, h43, h45]
    rw [hs, List.drop_zero, if_neg (by simp), hm]
    simp [ends, h45]; omega

theorem mval_quest : mval [63, 63, 63] = none := by decide

end Go.Proofs.YbulkdrosDoor
