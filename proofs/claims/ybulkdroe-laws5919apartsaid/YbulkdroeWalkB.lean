/-
  LawS5919APart walked: a crowd.
-/
import Derived.Test.YbulkdroePlain
namespace Go.Proofs.Ybulkdroe
open Go.RowKit
set_option linter.unusedVariables false
attribute [local go_sem ↓] neq62 eql62 neq59
attribute [local go_sem] neq49 neq52

set_option maxRecDepth 100000 in
set_option maxHeartbeats 2000000 in
theorem b_nil_true (md ms sel er en es nr ur sx id : Int) (w : World) (d0 : 0 ≤ md) (d1 : md ≤ 255) (m0 : 0 ≤ ms) (m1 : ms ≤ 18446744073709551615) (s0 : 0 ≤ sel) (s1 : sel ≤ 255) (e0 : 0 ≤ er) (e1 : er ≤ 255) (hp1 : (sel % 3 == 1) = false) (hp2 : (sel % 3 == 2) = false) :
    Calls Yba.prog 3 #[.bool true, .int .u8 md, .int .u64 ms, .int .u8 sel, .bool true, .int .u8 er, .int .u32 en, .int .u8 es, .int .u32 nr, .int .u32 ur, .int .u8 sx, .int .u64 id] w fun e w' => e = .returned (.bool true) ∧ Below w.heap.size w w' := by
  have hpn : (sel % 3 != 1) = true := by simpa using hp1
  go_enter Yba.func3, Yba.ntmps3
  go_wp2_with fail
  refine (holds_crowd_nil (w.heap.size + 1 + 1) (w.heap.size + 1) (w.heap.size + 1 + 1 + 1) ms _ (by go_simp) (by go_simp) (by go_simp)).mono ?_
  rintro e w' ⟨rfl, q, rfl⟩
  go_wp2
  go_quiet (fail)
  go_wp2
  go_quiet (fail)
  go_wp2
  go_ret
  exact ⟨rfl, by repeat' (first | exact Below.refl _ _ | refine below_drewN ?_ _ | refine Below.alloc ?_ ?_ _ | go_size)⟩

set_option maxRecDepth 100000 in
set_option maxHeartbeats 2000000 in
theorem b_self_true (md ms sel er en es nr ur sx id : Int) (w : World) (d0 : 0 ≤ md) (d1 : md ≤ 255) (m0 : 0 ≤ ms) (m1 : ms ≤ 18446744073709551615) (s0 : 0 ≤ sel) (s1 : sel ≤ 255) (e0 : 0 ≤ er) (e1 : er ≤ 255) (hp1 : (sel % 3 == 1) = true) :
    Calls Yba.prog 3 #[.bool true, .int .u8 md, .int .u64 ms, .int .u8 sel, .bool true, .int .u8 er, .int .u32 en, .int .u8 es, .int .u32 nr, .int .u32 ur, .int .u8 sx, .int .u64 id] w fun e w' => e = .returned (.bool true) ∧ Below w.heap.size w w' := by
  have hpn : (sel % 3 != 1) = false := by simpa using hp1
  go_enter Yba.func3, Yba.ntmps3
  go_wp2_with fail
  refine (holds_crowd (w.heap.size + 1 + 1) (w.heap.size + 1) (w.heap.size + 1 + 1 + 1) (w.heap.size + 1 + 1) ms nr sx nr sx 0 _ (by go_simp) (by go_simp) (by go_simp) (by go_simp) (by go_simp) (by go_simp) (by go_simp) (by go_simp) (.inl rfl)).mono ?_
  rintro e w' ⟨rfl, q, rfl⟩
  go_wp2
  go_quiet (fail)
  go_wp2
  go_quiet (fail)
  go_wp2
  go_ret
  exact ⟨rfl, by repeat' (first | exact Below.refl _ _ | refine below_drewN ?_ _ | refine Below.alloc ?_ ?_ _ | go_size)⟩

set_option maxRecDepth 100000 in
set_option maxHeartbeats 2000000 in
theorem b_other_true (md ms sel er en es nr ur sx id : Int) (w : World) (d0 : 0 ≤ md) (d1 : md ≤ 255) (m0 : 0 ≤ ms) (m1 : ms ≤ 18446744073709551615) (s0 : 0 ≤ sel) (s1 : sel ≤ 255) (e0 : 0 ≤ er) (e1 : er ≤ 255) (hp1 : (sel % 3 == 1) = false) (hp2 : (sel % 3 == 2) = true) :
    Calls Yba.prog 3 #[.bool true, .int .u8 md, .int .u64 ms, .int .u8 sel, .bool true, .int .u8 er, .int .u32 en, .int .u8 es, .int .u32 nr, .int .u32 ur, .int .u8 sx, .int .u64 id] w fun e w' => e = .returned (.bool true) ∧ Below w.heap.size w w' := by
  have hpn : (sel % 3 != 1) = true := by simpa using hp1
  go_enter Yba.func3, Yba.ntmps3
  go_wp2_with fail
  refine (holds_crowd (w.heap.size + 1 + 1) (w.heap.size + 1) (w.heap.size + 1 + 1 + 1) (w.heap.size + 1 + 1 + 1 + 1) ms nr sx en es (er % 2) _ (by go_simp) (by go_simp) (by go_simp) (by go_simp) (by go_simp) (by go_simp) (by go_simp) (by go_simp) (by omega)).mono ?_
  rintro e w' ⟨rfl, q, rfl⟩
  go_wp2
  go_quiet (fail)
  go_wp2
  go_quiet (fail)
  go_wp2
  go_ret
  exact ⟨rfl, by repeat' (first | exact Below.refl _ _ | refine below_drewN ?_ _ | refine Below.alloc ?_ ?_ _ | go_size)⟩

set_option maxRecDepth 100000 in
set_option maxHeartbeats 2000000 in
theorem b_nil_false (md ms sel er en es nr ur sx id : Int) (w : World) (d0 : 0 ≤ md) (d1 : md ≤ 255) (m0 : 0 ≤ ms) (m1 : ms ≤ 18446744073709551615) (s0 : 0 ≤ sel) (s1 : sel ≤ 255) (e0 : 0 ≤ er) (e1 : er ≤ 255) (hp1 : (sel % 3 == 1) = false) (hp2 : (sel % 3 == 2) = false) :
    Calls Yba.prog 3 #[.bool false, .int .u8 md, .int .u64 ms, .int .u8 sel, .bool true, .int .u8 er, .int .u32 en, .int .u8 es, .int .u32 nr, .int .u32 ur, .int .u8 sx, .int .u64 id] w fun e w' => e = .returned (.bool true) ∧ Below w.heap.size w w' := by
  have hpn : (sel % 3 != 1) = true := by simpa using hp1
  go_enter Yba.func3, Yba.ntmps3
  go_wp2_with fail
  refine (holds_crowd_nil (w.heap.size + 1 + 1) (w.heap.size + 1) (w.heap.size + 1 + 1 + 1) ms _ (by go_simp) (by go_simp) (by go_simp)).mono ?_
  rintro e w' ⟨rfl, q, rfl⟩
  go_wp2
  go_quiet (fail)
  go_wp2
  go_quiet (fail)
  go_wp2
  go_ret
  exact ⟨rfl, by repeat' (first | exact Below.refl _ _ | refine below_drewN ?_ _ | refine Below.alloc ?_ ?_ _ | go_size)⟩

set_option maxRecDepth 100000 in
set_option maxHeartbeats 2000000 in
theorem b_self_false (md ms sel er en es nr ur sx id : Int) (w : World) (d0 : 0 ≤ md) (d1 : md ≤ 255) (m0 : 0 ≤ ms) (m1 : ms ≤ 18446744073709551615) (s0 : 0 ≤ sel) (s1 : sel ≤ 255) (e0 : 0 ≤ er) (e1 : er ≤ 255) (hp1 : (sel % 3 == 1) = true) :
    Calls Yba.prog 3 #[.bool false, .int .u8 md, .int .u64 ms, .int .u8 sel, .bool true, .int .u8 er, .int .u32 en, .int .u8 es, .int .u32 nr, .int .u32 ur, .int .u8 sx, .int .u64 id] w fun e w' => e = .returned (.bool true) ∧ Below w.heap.size w w' := by
  have hpn : (sel % 3 != 1) = false := by simpa using hp1
  go_enter Yba.func3, Yba.ntmps3
  go_wp2_with fail
  refine (holds_crowd (w.heap.size + 1 + 1) (w.heap.size + 1) (w.heap.size + 1 + 1 + 1) (w.heap.size + 1 + 1) ms nr sx nr sx 0 _ (by go_simp) (by go_simp) (by go_simp) (by go_simp) (by go_simp) (by go_simp) (by go_simp) (by go_simp) (.inl rfl)).mono ?_
  rintro e w' ⟨rfl, q, rfl⟩
  go_wp2
  go_quiet (fail)
  go_wp2
  go_quiet (fail)
  go_wp2
  go_ret
  exact ⟨rfl, by repeat' (first | exact Below.refl _ _ | refine below_drewN ?_ _ | refine Below.alloc ?_ ?_ _ | go_size)⟩

set_option maxRecDepth 100000 in
set_option maxHeartbeats 2000000 in
theorem b_other_false (md ms sel er en es nr ur sx id : Int) (w : World) (d0 : 0 ≤ md) (d1 : md ≤ 255) (m0 : 0 ≤ ms) (m1 : ms ≤ 18446744073709551615) (s0 : 0 ≤ sel) (s1 : sel ≤ 255) (e0 : 0 ≤ er) (e1 : er ≤ 255) (hp1 : (sel % 3 == 1) = false) (hp2 : (sel % 3 == 2) = true) :
    Calls Yba.prog 3 #[.bool false, .int .u8 md, .int .u64 ms, .int .u8 sel, .bool true, .int .u8 er, .int .u32 en, .int .u8 es, .int .u32 nr, .int .u32 ur, .int .u8 sx, .int .u64 id] w fun e w' => e = .returned (.bool true) ∧ Below w.heap.size w w' := by
  have hpn : (sel % 3 != 1) = true := by simpa using hp1
  go_enter Yba.func3, Yba.ntmps3
  go_wp2_with fail
  refine (holds_crowd (w.heap.size + 1 + 1) (w.heap.size + 1) (w.heap.size + 1 + 1 + 1) (w.heap.size + 1 + 1 + 1 + 1) ms nr sx en es (er % 2) _ (by go_simp) (by go_simp) (by go_simp) (by go_simp) (by go_simp) (by go_simp) (by go_simp) (by go_simp) (by omega)).mono ?_
  rintro e w' ⟨rfl, q, rfl⟩
  go_wp2
  go_quiet (fail)
  go_wp2
  go_quiet (fail)
  go_wp2
  go_ret
  exact ⟨rfl, by repeat' (first | exact Below.refl _ _ | refine below_drewN ?_ _ | refine Below.alloc ?_ ?_ _ | go_size)⟩

end Go.Proofs.Ybulkdroe
