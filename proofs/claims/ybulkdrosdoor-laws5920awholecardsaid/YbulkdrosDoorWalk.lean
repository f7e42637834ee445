/-
  LawS5920AWhole walked.
-/
import Derived.Test.YbulkdrosDoorPv
namespace Go.Proofs.YbulkdrosDoor
open Go.RowKit Go.Deep

theorem ne_nil_b {F : ByteArray} (h : F.data.toList ≠ []) : (F.toList == []) = false := by
  rw [beq_eq_false_iff_ne, ByteArray.toList_eq]; exact h

theorem assert9 (v : Value) (W : World) : (Instr.typeAssert (.iface 9 v) 20 9 true).run Ybad.prog W = .ok (.tuple #[v, .bool true]) W := by kernel_rfl

theorem law_long (name text : ByteArray) (col n : Int) (un : Bool) (w : World) (hs : text.size ≤ 9223372036854775807) (h : 1048576 < text.size) :
    Calls Ybad.prog 3 #[.string name, .string text, .int .i64 col, .bool un, .int .i64 n] w fun e w' => e = .returned (.bool true) ∧ Below w.heap.size w w' := by
  have hd : decide ((1048576 : Int) < (text.size : Int)) = true := by rw [decide_eq_true_eq]; omega
  go_enter Ybad.func3, Ybad.ntmps3
  go_wp2
  go_ret
  exact ⟨rfl, Below.refl _ _⟩

theorem law_long' (name text : ByteArray) (col n : Int) (un : Bool) (w : World) (hs : text.size ≤ 1048576) (hs' : name.size ≤ 9223372036854775807) (h : 1048576 < name.size) :
    Calls Ybad.prog 3 #[.string name, .string text, .int .i64 col, .bool un, .int .i64 n] w fun e w' => e = .returned (.bool true) ∧ Below w.heap.size w w' := by
  have hd : decide ((1048576 : Int) < (text.size : Int)) = false := by rw [decide_eq_false_iff_not]; omega
  have hd' : decide ((1048576 : Int) < (name.size : Int)) = true := by rw [decide_eq_true_eq]; omega
  go_enter Ybad.func3, Ybad.ntmps3
  go_wp2
  go_ret
  exact ⟨rfl, Below.refl _ _⟩

set_option maxRecDepth 100000 in
set_option maxHeartbeats 2000000 in
theorem law_mid (name text : ByteArray) (col n : Int) (un : Bool) (w : World) (hs : text.size ≤ 1048576) (hs' : name.size ≤ 1048576) (n0 : -9223372036854775808 ≤ n) (n1 : n ≤ 9223372036854775807)
    (t0 t1 : TypeId) (p0 p1 : Value) (h0 : w.var? Ybad.prog "strconv.ErrSyntax" = some #[.iface t0 p0]) (h1 : w.var? Ybad.prog "strconv.ErrRange" = some #[.iface t1 p1]) (h0s : 1 < w.heap.size) :
    Calls Ybad.prog 3 #[.string name, .string text, .int .i64 col, .bool un, .int .i64 n] w fun e w' => e = .returned (.bool true) ∧ Below w.heap.size w w' := by
  have hd : decide ((1048576 : Int) < (text.size : Int)) = false := by rw [decide_eq_false_iff_not]; omega
  have hd' : decide ((1048576 : Int) < (name.size : Int)) = false := by rw [decide_eq_false_iff_not]; omega
  go_enter Ybad.func3, Ybad.ntmps3
  go_upto_if 30 with fail
  go_cut [1] (fun v wx => ∃ tx : ByteArray, v = .string tx ∧ tx.size ≤ 1048576 ∧ (un = true → mval tx.data.toList = some n) ∧ Below w.heap.size w wx)
  case first =>
    cases un with
    | true =>
      go_wp2_with (go_at_call 4; refine (fmt_any n _ n0 n1).mono ?_; rintro e w1 ⟨rfl, hb⟩)
      go_meet
      case rel =>
        refine ⟨⟨(Lib.itoa n).toArray⟩, rfl, ?_, fun _ => by simpa using mval_itoa n n0 n1, hb⟩
        have := Lib.itoa_length_le n n0 n1
        show (Lib.itoa n).toArray.size ≤ _
        simp
        omega
    | false =>
      go_wp2
      go_meet
      case rel => exact ⟨text, rfl, hs, (fun h => Bool.noConfusion h), Below.refl _ _⟩
  case rest =>
    obtain ⟨tx, rfl, htx, hun, hb⟩ := hcut
    have hsz := hb.size
    have hL := size_alloc' wc (.cells #[.slice none 0 0] 23)
    have hbl : Below wc.heap.size wc (wc.alloc (.cells #[.slice none 0 0] 23)) := (Below.refl _ _).alloc (Nat.le_refl _) _
    have hbw : Below w.heap.size w (wc.alloc (.cells #[.slice none 0 0] 23)) := hb.alloc hsz _
    have g0 := (Ybad.var_below hbw Ybad.gSyn (show 0 < w.heap.size by omega)).trans h0
    have g1 := (Ybad.var_below hbw Ybad.gRan (show 1 < w.heap.size by omega)).trans h1
    have hl := alloc_cell wc #[.slice none 0 0] 23 0
    have hz : (wc.alloc (.cells #[.slice none 0 0] 23)).frozen? ⟨wc.heap.size, 0, none⟩ = false := by
      unfold World.frozen?
      rw [show (wc.alloc (.cells #[.slice none 0 0] 23)).heap[(⟨wc.heap.size, 0, none⟩ : Addr).block]? = some (.cells #[.slice none 0 0] 23) from alloc_at _ _]
      rfl
    have HW : Hid (Below w.heap.size w (wc.alloc (.cells #[.slice none 0 0] 23))) := hbw
    have HZ : Hid (w.heap.size ≤ wc.heap.size) := hsz
    clear hbl hbw
    by_cases hq : tx = ⟨#[63, 63, 63]⟩
    · subst hq
      go_wp2_with (go_at_call 6; refine (pv_quest name col _ _).mono ?_; rintro e w1 ⟨rfl, rfl⟩)
      go_ret
      exact ⟨rfl, HW.out.alloc (by have := HZ.out; omega) _⟩
    · have hq' : (tx.toList == [63, 63, 63]) = false := by
        rw [beq_eq_false_iff_ne, ByteArray.toList_eq]
        intro h
        exact hq (by cases tx; simp at h ⊢; rw [← h])
      cases hm : mval tx.data.toList with
      | some v =>
        have hv := mval_some.1 hm
        have hmod : ∀ wx, Calls Ybad.prog 7 #[.string tx] wx fun e w' => e = .returned (.tuple #[.int .u64 (IntKind.u64.wrap v), .bool true]) ∧ w' = wx := fun wx => by
          have := model_all tx wx (by omega)
          rw [hm] at this
          rw [wrap_u64]
          exact this
        cases un with
        | true =>
          obtain rfl : v = n := by
            have := (hun rfl).symm.trans hm
            cases this; rfl
          go_wp2_with (first
            | (go_at_call 6; refine (pv_ok name tx col _ v _ hq' (by omega) hv).mono ?_; rintro e w1 ⟨P, rfl, cP, hb1⟩; rw [← wrap_u64] at cP; have l1 := (hb1.cell (p := ⟨wc.heap.size, 0, none⟩) (show wc.heap.size < _ by omega)).trans hl; have HB1 : Hid (Below _ _ w1) := hb1; clear hb1)
            | (go_at_call 7; refine (hmod _).mono ?_; rintro e w2 ⟨rfl, rfl⟩))
          go_ret
          exact ⟨rfl, HW.out.trans (HB1.out.mono (by have := HZ.out; omega))⟩
        | false =>
          go_wp2_with (first
            | (go_at_call 6; refine (pv_ok name tx col _ v _ hq' (by omega) hv).mono ?_; rintro e w1 ⟨P, rfl, cP, hb1⟩; rw [← wrap_u64] at cP; have l1 := (hb1.cell (p := ⟨wc.heap.size, 0, none⟩) (show wc.heap.size < _ by omega)).trans hl; have HB1 : Hid (Below _ _ w1) := hb1; clear hb1)
            | (go_at_call 7; refine (hmod _).mono ?_; rintro e w2 ⟨rfl, rfl⟩))
          go_ret
          exact ⟨rfl, HW.out.trans (HB1.out.mono (by have := HZ.out; omega))⟩
      | none =>
        have hv := mval_none.1 hm
        have hmod : ∀ wx, Calls Ybad.prog 7 #[.string tx] wx fun e w' => e = .returned (.tuple #[.int .u64 0, .bool false]) ∧ w' = wx := fun wx => by
          have := model_all tx wx (by omega)
          rw [hm] at this
          exact this
        cases un with
        | true =>
          have := (hun rfl).symm.trans hm
          cases this
        | false =>
          have has := assert9
          go_wp2_with (first
            | (go_at_call 6; refine (pv_err name tx col wc.heap.size _ hq' (by omega) hv t0 t1 p0 p1 g0 g1 hl hz (by omega) (by omega)).mono ?_; rintro e w1 ⟨rfl, F, hF, hbR, G, C, cap, r0, r1, r2, r3, r4, r5⟩; have hC : C < w1.heap.size := Lib.lt_of_cell r4; have hF' : (F.toList == []) = false := ne_nil_b hF; have HB1 : Hid (Below _ _ w1) := hbR; clear hbR)
            | (go_at_call 7; refine (hmod _).mono ?_; rintro e w2 ⟨rfl, rfl⟩))
          go_ret
          have hbb : Below w.heap.size w w2 := HW.out.trans (HB1.out.mono HZ.out)
          exact ⟨rfl, hbb.alloc hbb.size _⟩

/-- The law, at every input. -/
theorem law_any (name text : ByteArray) (col n : Int) (un : Bool) (w : World) (hs : text.size ≤ 9223372036854775807) (hs' : name.size ≤ 9223372036854775807) (n0 : -9223372036854775808 ≤ n) (n1 : n ≤ 9223372036854775807)
    (t0 t1 : TypeId) (p0 p1 : Value) (h0 : w.var? Ybad.prog "strconv.ErrSyntax" = some #[.iface t0 p0]) (h1 : w.var? Ybad.prog "strconv.ErrRange" = some #[.iface t1 p1]) :
    Calls Ybad.prog 3 #[.string name, .string text, .int .i64 col, .bool un, .int .i64 n] w fun e w' => e = .returned (.bool true) ∧ Below w.heap.size w w' := by
  by_cases h : 1048576 < text.size
  · exact law_long name text col n un w hs h
  · by_cases h' : 1048576 < name.size
    · exact law_long' name text col n un w (by omega) hs' h'
    · exact law_mid name text col n un w (by omega) (by omega) n0 n1 t0 t1 p0 p1 h0 h1 (Lib.lt_of_cell ((World.var?_cell Ybad.gRan h1 0).trans rfl))
end Go.Proofs.YbulkdrosDoor
