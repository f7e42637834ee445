/-
  zzs5920afmt walked: it answers the decimal numeral.
-/
import Derived.Test.YbulkdrosDoorModel
import Derived.Deep.OwnRows
import Derived.Laws.IdiomStrings
namespace Go.Proofs.YbulkdrosDoor
open Go.RowKit Go.Deep

def fcell (i : Nat) (L : List UInt8) (j : Nat) : Value := if j < i then .int .u8 0 else .int .u8 ((L.getD (j - i) 0).toNat : Nat)

/-- The digits L lie behind place i of the 24. -/
structure FSt (w : World) (T : TypeId) (i : Nat) (L : List UInt8) (wr : World) : Prop where
  below : Below w.heap.size w wr
  row : wr.rowIs w.heap.size T 24 (fcell i L)
  len : i + L.length = 24

theorem FSt.step {w : World} {T : TypeId} {i : Nat} {L : List UInt8} {wr : World} (h : FSt w T (i + 1) L wr) (c : UInt8) : FSt w T i (c :: L) (wr.setCell ⟨w.heap.size, i, none⟩ (.int .u8 (c.toNat : Nat))) := by
  refine ⟨h.below.setCell (Nat.le_refl _) _, (h.row.set i _).congr fun j hj => ?_, by have := h.len; simp; omega⟩
  unfold fcell
  by_cases hji : j = i
  · subst hji; simp
  · rw [if_neg hji]
    by_cases hlt : j < i
    · rw [if_pos (by omega), if_pos hlt]
    · rw [if_neg (by omega), if_neg hlt]
      obtain ⟨k, rfl⟩ : ∃ k, j = i + 1 + k := ⟨j - (i + 1), by omega⟩
      rw [show i + 1 + k - (i + 1) = k by omega, show i + 1 + k - i = k + 1 by omega]
      rfl

theorem FSt.drew {w : World} {T : TypeId} {i : Nat} {L : List UInt8} {wr : World} (h : FSt w T i L wr) : FSt w T i L wr.drew := ⟨h.below.drew, h.row.drew, h.len⟩

theorem FSt.str {w : World} {T : TypeId} {i : Nat} {L : List UInt8} {wr : World} (h : FSt w T i L wr) :
    (convert 39 9 (.slice (some ⟨w.heap.size, i, none⟩) (24 - i) (24 - i))).run Ybad.prog wr = .ok (.string ⟨L.toArray⟩) wr := by
  have hl := h.len
  have := run_convert_bytes_back (P := Ybad.prog) wr 39 9 5 ⟨w.heap.size, i, none⟩ (24 - i) L Ybad.underlying39 Ybad.underlying5 Ybad.underlying9 (fun j hj => by
    have := h.row.cell (i := i + j) (by omega)
    rw [Lib.add_plain, this]
    simp [fcell, hj, show ¬ (i + j < i) by omega])
  rw [show L.length = 24 - i by omega] at this
  exact this

theorem slice24 (B k : Nat) (h : k < 24) (wx : World) :
    (Instr.sliceAt 38 (.pointer (some ⟨B, 0, none⟩)) (some (.int .i64 (k : Int))) none none).run Ybad.prog wx = .ok (.slice (some ⟨B, k, none⟩) (24 - k) (24 - k)) wx := by
  have he : Ybad.prog.elem 38 = 5 := by kernel_rfl
  have hl : Ybad.prog.arrayLen 38 = 24 := by kernel_rfl
  rw [run_sliceAt_array_l wx 38 ⟨B, 0, none⟩ (by rw [he, hl]; exact Ybad.underlying38) .i64 k (by omega) (by rw [hl]; omega), he, hl]
  have hs : (sizeOf 5).run Ybad.prog wx = .ok 1 wx := by simp [Ybad.sizeOf5]
  rw [hs]
  simp [Result.andThen, slicedAt, show ¬ 24 = k by omega, Lib.add_plain]

set_option maxHeartbeats 1000000 in
theorem fmt_any (n : Int) (w : World) (h0 : -9223372036854775808 ≤ n) (h1 : n ≤ 9223372036854775807) :
    Calls Ybad.prog 4 #[.int .i64 n] w fun e w' => e = .returned (.string ⟨(Lib.itoa n).toArray⟩) ∧ Below w.heap.size w w' := by
  obtain ⟨u, hu⟩ : ∃ u, u = n.natAbs := ⟨_, rfl⟩
  have hu64 : u ≤ 9223372036854775808 := by omega
  go_enter Ybad.func4, Ybad.ntmps4
  go_upto_if 11 with fail
  generalize hb : decide (n < 0) = b
  have HB : Hid (decide (n < 0) = b) := hb
  clear hb
  go_cut [3] (fun v wx => v = .int .u64 u ∧ w = wx)
  case first =>
    cases b with
    | true =>
      have hn : n < 0 := of_decide_eq_true HB.out
      go_wp2
      go_meet
      case rel => exact ⟨by rw [wrap_u64, wrap_u64]; congr 1; omega, rfl⟩
    | false =>
      have hn : ¬ n < 0 := of_decide_eq_false HB.out
      go_wp2
      go_meet
      case rel => exact ⟨by rw [wrap_u64]; congr 1; omega, rfl⟩
  case rest =>
    obtain ⟨rfl, rfl⟩ := hcut
    have H24 : (Lib.decDigits u).length ≤ 20 := by rw [Lib.decDigits_length]; exact Lib.nDigits_le20 u (by omega)
    go_wp2_with fail
    have HS : Hid (FSt w 38 24 [] (w.alloc (.cells Lib.zeros24 38))) := by
      refine ⟨(Below.refl _ _).alloc (Nat.le_refl _) _, ?_, rfl⟩
      exact World.rowIs_alloc w Lib.zeros24 38 (fcell 24 []) (fun i hi => by
        rw [Lib.zeros24_at i hi, fcell, if_pos (show i < 24 from hi)])
    go_loopg [3, 6] u (fun q vv iv wx => ∃ (v i : Nat) (L : List UInt8), q = v ∧ vv = .int .u64 v ∧ iv = .int .i64 i ∧ v ≤ u ∧ Lib.decDigits u = Lib.decDigits v ++ L ∧ FSt w 38 i L wx)
    case atStart => exact ⟨u, 24, [], rfl, rfl, rfl, Nat.le_refl _, by simp, HS.out⟩
    case round =>
      clear HS
      obtain ⟨v, i, L, rfl, rfl, rfl, hvu, hdec, hst⟩ := hrel
      have hlen := congrArg List.length hdec
      rw [List.length_append, Lib.decDigits_length gk] at hlen
      have hpos := Lib.nDigits_pos gk
      have hil := hst.len
      obtain ⟨k, rfl⟩ : ∃ k, i = k + 1 := ⟨i - 1, by omega⟩
      have HD : Hid (Lib.decDigits u = Lib.decDigits gk ++ L) := hdec
      have hk : 4 ≤ k := by omega
      clear hdec hlen hpos
      have hk2 : k < 24 := by omega
      have c0 := hst.row.cell (show k < 24 by omega)
      have z0 := hst.row.frozen k
      have HS : Hid (FSt w 38 (k + 1) L wr) := hst
      have HN : Hid (FSt w 38 k (UInt8.ofNat (48 + gk % 10) :: L) (wr.setCell ⟨w.heap.size, k, none⟩ (.int .u8 (48 + (gk : Int) % 10)))) := by
        have := hst.step (UInt8.ofNat (48 + gk % 10))
        rw [byte_nat _ (by omega)] at this
        unfold Hid
        simpa using this
      clear hst hil
      by_cases h10 : gk < 10
      · have hd : ((gk : Int) / 10 == 0) = true := by rw [beq_iff_eq]; omega
        have hq : (gk : Int) / 10 = 0 := by omega
        have HE : Hid (Lib.decDigits u = UInt8.ofNat (48 + gk % 10) :: L) := by
          unfold Hid
          rw [HD.out, Lib.decDigits_one h10, Nat.mod_eq_of_lt h10, List.singleton_append]
        generalize UInt8.ofNat (48 + gk % 10) :: L = M at HN HE
        cases b with
        | false =>
          have hn : ¬ n < 0 := of_decide_eq_false HB.out
          have hconv := HN.out.str
          have hsl := slice24 w.heap.size k (by omega)
          go_wp2
          go_ret
          refine ⟨?_, HN.out.below⟩
          rw [← HE.out, show n = (u : Int) by omega, Lib.itoa_nonneg]
          rfl
        | true =>
          have hn : n < 0 := of_decide_eq_true HB.out
          obtain ⟨k, rfl⟩ : ∃ j, k = j + 1 := ⟨k - 1, by omega⟩
          have c1 := HS.out.row.cell (show k < 24 by omega)
          have z1 := HS.out.row.frozen k
          have HN3 : Hid (FSt w 38 k (45 :: M) ((wr.setCell ⟨w.heap.size, k + 1, none⟩ (.int .u8 (48 + (gk : Int) % 10))).setCell ⟨w.heap.size, k, none⟩ (.int .u8 45))) := HN.out.step 45
          have hconv := HN3.out.str
          have hsl := slice24 w.heap.size k (by omega)
          go_wp2
          go_ret
          refine ⟨?_, HN3.out.below⟩
          rw [← HE.out, show n = -(u : Int) by omega, Lib.itoa_neg u (by omega)]
          rfl
      · have hd : ((gk : Int) / 10 == 0) = false := by rw [beq_eq_false_iff_ne]; omega
        go_wp2
        go_roundg (gk / 10)
        case measure => omega
        case rel =>
          refine ⟨gk / 10, k, UInt8.ofNat (48 + gk % 10) :: L, rfl, by go_num, by go_num, by omega, ?_, HN.out⟩
          rw [HD.out, Lib.decDigits, dif_neg h10]
          simp
end Go.Proofs.YbulkdrosDoor
