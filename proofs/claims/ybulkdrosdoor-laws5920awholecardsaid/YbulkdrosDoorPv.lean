/-
  parseValue by its three contracts.
-/
import Derived.Test.YbulkdrosDoorFail
import Derived.Test.YbulkdrosDoorFmt
import Derived.Test.YbulkdrosDoorShelf
namespace Go.Proofs.YbulkdrosDoor
open Go.RowKit Go.Deep

set_option maxHeartbeats 400000 in
theorem pv_quest (name : ByteArray) (col : Int) (f : Value) (w : World) :
    Calls Ybad.prog 6 #[.string name, .agg #[.string ⟨#[63, 63, 63]⟩, .int .i64 col], f] w fun e w' => e = .returned (.tuple #[.pointer none, .bool true]) ∧ w' = w.alloc (.cells #[.string ⟨#[63, 63, 63]⟩, .int .i64 col] 32) := by
  go_enter Ybad.func6, Ybad.ntmps6
  go_wp2
  go_ret2
  exact ⟨rfl, rfl⟩

set_option maxHeartbeats 1000000 in
theorem pv_ok (name text : ByteArray) (col : Int) (f : Value) (v : Int) (w : World) (hq : (text.toList == [63, 63, 63]) = false) (hmax : text.size ≤ 9223372036854775806) (hv : Lib.parseIntB 64 text.data.toList = .ok v) :
    Calls Ybad.prog 6 #[.string name, .agg #[.string text, .int .i64 col], f] w fun e w' => ∃ P, e = .returned (.tuple #[.pointer (some ⟨P, 0, none⟩), .bool true]) ∧ w'.cell? ⟨P, 0, none⟩ = some (.int .u64 (v % 18446744073709551616)) ∧ Below w.heap.size w w' := by
  go_enter Ybad.func6, Ybad.ntmps6
  go_wp2_with (go_at_call 8; refine (Ybad.pint_ok text hmax v hv _).mono ?_; rintro e w1 ⟨rfl, hw⟩)
  have hb1 : Below w.heap.size w (w.alloc (.cells #[.string text, .int .i64 col] 32)) := (Below.refl _ _).alloc (Nat.le_refl _) _
  have hz1 := size_alloc' w (.cells #[.string text, .int .i64 col] 32)
  have hb2 : Below w.heap.size w w1 := by
    rcases hw with rfl | ⟨t, rfl⟩
    · exact hb1
    · exact hb1.trans ((Lib.bytesWorld_below _ _ _).mono (by omega))
  go_ret2
  rw [wrap_u64]
  exact ⟨_, rfl, alloc_cell _ _ _ 0, hb2.alloc hb2.size _⟩

theorem report_new (Lb : Nat) (col : Int) (F x y : ByteArray) (w : World) (hl : w.cell? ⟨Lb, 0, none⟩ = some (.slice none 0 0)) (hz : w.frozen? ⟨Lb, 0, none⟩ = false) (hL : Lb < w.heap.size) :
    Calls Ybad.prog 5 #[.int .i64 col, .string F, .slice (some ⟨w.heap.size, 0, none⟩) 2 2, .pointer (some ⟨Lb, 0, none⟩)] (w.alloc (.cells #[.iface 9 (.string x), .iface 9 (.string y)] 20)) fun e w' => e = .returned (.tuple #[]) ∧ Rep Lb col F x y w w' := by
  have hb : Below w.heap.size w (w.alloc (.cells #[.iface 9 (.string x), .iface 9 (.string y)] 20)) := (Below.refl _ _).alloc (Nat.le_refl _) _
  have hs := size_alloc' w (.cells #[.iface 9 (.string x), .iface 9 (.string y)] 20)
  refine (report Lb w.heap.size col F x y _ ((hb.cell (p := ⟨Lb, 0, none⟩) hL).trans hl) ((hb.frozen (p := ⟨Lb, 0, none⟩) hL).trans hz) (by omega) (by omega) (alloc_cell w _ 20 0) (alloc_cell w _ 20 1)).mono ?_
  rintro e w' ⟨rfl, hr⟩
  exact ⟨rfl, (hb.mono (by omega)).trans hr.below, hr.log⟩

theorem box_facts {w w1 : World} {text : ByteArray} {col : Int} {Lb : Nat} (hb2 : Below (w.alloc (.cells #[.string text, .int .i64 col] 32)).heap.size (w.alloc (.cells #[.string text, .int .i64 col] 32)) w1)
    (hl : w.cell? ⟨Lb, 0, none⟩ = some (.slice none 0 0)) (hz : w.frozen? ⟨Lb, 0, none⟩ = false) (hL : Lb < w.heap.size) :
    w1.cell? ⟨w.heap.size, 0, none⟩ = some (.string text) ∧ w1.cell? ⟨w.heap.size, 1, none⟩ = some (.int .i64 col) ∧ w1.cell? ⟨Lb, 0, none⟩ = some (.slice none 0 0) ∧ w1.frozen? ⟨Lb, 0, none⟩ = false ∧ Lb < w1.heap.size ∧ w.heap.size < w1.heap.size ∧ Hid (Below w.heap.size w w1) := by
  have hb : Below w.heap.size w (w.alloc (.cells #[.string text, .int .i64 col] 32)) := (Below.refl _ _).alloc (Nat.le_refl _) _
  have hs := size_alloc' w (.cells #[.string text, .int .i64 col] 32)
  have h1 := hb2.size
  have hbb : Below w.heap.size w w1 := hb.trans (hb2.mono (by omega))
  refine ⟨(hb2.cell (p := ⟨w.heap.size, 0, none⟩) (show w.heap.size < _ by omega)).trans (alloc_cell w _ 32 0), (hb2.cell (p := ⟨w.heap.size, 1, none⟩) (show w.heap.size < _ by omega)).trans (alloc_cell w _ 32 1), (hbb.cell (p := ⟨Lb, 0, none⟩) hL).trans hl, (hbb.frozen (p := ⟨Lb, 0, none⟩) hL).trans hz, by omega, by omega, hbb⟩

set_option maxHeartbeats 1000000 in
theorem pv_err (name text : ByteArray) (col : Int) (Lb : Nat) (w : World) (hq : (text.toList == [63, 63, 63]) = false) (hlim : text.size ≤ 281474976710656) (hv : ∀ v, Lib.parseIntB 64 text.data.toList ≠ .ok v)
    (t0 t1 : TypeId) (p0 p1 : Value) (h0 : w.var? Ybad.prog "strconv.ErrSyntax" = some #[.iface t0 p0]) (h1 : w.var? Ybad.prog "strconv.ErrRange" = some #[.iface t1 p1]) (hl : w.cell? ⟨Lb, 0, none⟩ = some (.slice none 0 0)) (hz : w.frozen? ⟨Lb, 0, none⟩ = false) (hL : Lb < w.heap.size) (h0s : 1 < w.heap.size) :
    Calls Ybad.prog 6 #[.string name, .agg #[.string text, .int .i64 col], .func (.func 5) #[] #[.pointer (some ⟨Lb, 0, none⟩)]] w fun e w' => e = .returned (.tuple #[.pointer none, .bool false]) ∧ ∃ F : ByteArray, F.data.toList ≠ [] ∧ Rep Lb col F name text w w' := by
  have hz1 := size_alloc' w (.cells #[.string text, .int .i64 col] 32)
  have hb1 : Below w.heap.size w (w.alloc (.cells #[.string text, .int .i64 col] 32)) := (Below.refl _ _).alloc (Nat.le_refl _) _
  have g0 := (Ybad.var_below hb1 Ybad.gSyn (show 0 < w.heap.size by omega)).trans h0
  have g1 := (Ybad.var_below hb1 Ybad.gRan (show 1 < w.heap.size by omega)).trans h1
  clear hb1 hz1 h0 h1
  go_enter Ybad.func6, Ybad.ntmps6
  go_wp2_with (first
    | (go_at_call 8; refine (Ybad.pint_err text hlim hv _ t0 t1 p0 p1 g0 g1).mono ?_; rintro e w1 ⟨v, N, rfl, hb2⟩; obtain ⟨b0, b1, l1, z1, L1, s1, HB⟩ := box_facts hb2 hl hz hL; clear hb2)
    | (go_at_call 5; refine (report_new Lb col _ name text _ (by assumption) (by assumption) (by assumption)).mono ?_; rintro e w3 ⟨rfl, hrep⟩))
  go_ret2
  have hb := HB.out
  exact ⟨rfl, _, by simp, (hb.mono (by omega)).trans hrep.below, hrep.log⟩
end Go.Proofs.YbulkdrosDoor
