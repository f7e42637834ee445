/-
  The reporting closure of LawS5920AWhole by its contract.
-/
import Derived.Test.YbulkdrosDoorRows
import Derived.WalkKit
import Derived.WalkSpells
import Derived.WalkLawsBesides
import Derived.Handy
import Derived.BigQuiet
import Derived.Deep.LoopGhost
import Derived.Deep.QuietTactic
import Derived.Deep.DeepCutAuto
import Derived.Deep.OwnRows
import Derived.Deep.DrawnRows
import Derived.Deep.RegionHeld3
import Derived.Laws.CopyOwn
import Derived.Lib.ItoaMem
namespace Go.Proofs.YbulkdrosDoor
open Go.RowKit Go.Deep

theorem size20 : (Ybad.prog.info? 20).map (·.size) = some 1 := by kernel_rfl
theorem info20 : (Ybad.prog.info? 20).map (fun i => (i.zero, i.size, i.bytes)) = some (some .nilIface, 1, 16) := by kernel_rfl

theorem run_make2 (w : World) : (Instr.makeSlice 24 (.int .i64 2) (.int .i64 2)).run Ybad.prog w = .ok (.slice (some ⟨w.heap.size, 0, none⟩) 2 2) (w.alloc (.cells #[.nilIface, .nilIface] 20)) := by
  have h := run_make_row' 24 20 .nilIface 16 Ybad.underlying24 info20 rfl .i64 .i64 2 (by omega) (by omega) w
  have e : madeCells #[Value.nilIface] 2 = #[.nilIface, .nilIface] := by kernel_rfl
  rw [e] at h
  exact h

theorem alloc_at (w : World) (o : Obj) : (w.alloc o).heap[w.heap.size]? = some o := by
  show (w.heap.push o)[w.heap.size]? = some o
  simp
theorem alloc_cell (w : World) (c : Array Value) (t : TypeId) (j : Nat) : (w.alloc (.cells c t)).cell? ⟨w.heap.size, j, none⟩ = c[j]? := by
  unfold World.cell?
  rw [show (w.alloc (.cells c t)).heap[(⟨w.heap.size, j, none⟩ : Addr).block]? = some (.cells c t) from alloc_at _ _]
  rfl
theorem setRow_new (w : World) (c0 c : Array Value) (t : TypeId) : (w.alloc (.cells c0 t)).setRow w.heap.size c = w.alloc (.cells c t) := by
  unfold World.setRow World.alloc
  congr 1
  apply Array.ext
  · simp
  · intro i h1 h2
    by_cases hi : w.heap.size = i
    · subst hi
      simp [Array.getElem_modify]
    · have h3 : i < w.heap.size := by simp at h2; omega
      simp [Array.getElem_modify, Array.getElem_push, hi, h3]

/-- 'copy(cp, args)', cp just made, both of two cells. -/
theorem wpList_copy_two {P : Program} {w : World} {ops : Array Oper} {rest : List Oper} {o : Oper} {a : Act} {Q : Exit → Act → World → Prop} (hgd : o.guard = none) (d s : Operand) (dT sT : TypeId)
    (ho : o.op = .call { callee := .builtin .copy, args := #[d, s], argTypes := #[dT, sT] }) (elem : TypeId) (hu : P.underlying dT = some (.slice elem)) (hsz : (P.info? elem).map (·.size) = some 1)
    (A : Nat) (hd : a.eval d = .slice (some ⟨w.heap.size, 0, none⟩) 2 2) (hs : a.eval s = .slice (some ⟨A, 0, none⟩) 2 2) (hA : A < w.heap.size) (n m x y : Value) (t : TypeId)
    (a0 : w.cell? ⟨A, 0, none⟩ = some x) (a1 : w.cell? ⟨A, 1, none⟩ = some y) (hx : x.oneCell' = true) (hy : y.oneCell' = true)
    (h : wpList P ops Q rest (a.put o.dst (.int .i64 2)) (w.alloc (.cells #[x, y] t))) : wpList P ops Q (o :: rest) a (w.alloc (.cells #[n, m] t)) := by
  refine wpList_copy_own hgd d s dT sT ho elem hu hsz w.heap.size 0 2 2 ⟨A, 0, none⟩ 2 2 hd hs #[n, m] t (alloc_at _ _) [x, y] rfl (fun j v hj => ?_) (by simp) (fun v hv => ?_) ?_
  · rw [Lib.add_plain, Nat.zero_add]
    have hb := (Below.refl w.heap.size w).alloc (Nat.le_refl _) (.cells #[n, m] t)
    match j, hj with
    | 0, hj => cases hj; exact (hb.cell hA).trans a0
    | 1, hj => cases hj; exact (hb.cell hA).trans a1
  · simp at hv; rcases hv with rfl | rfl
    · exact hx
    · exact hy
  · rw [setRow_new]
    exact h

/-- What the closure appends: one report, of the two arguments. -/
structure Rep (Lb : Nat) (col : Int) (F x y : ByteArray) (w w' : World) : Prop where
  below : Below Lb w w'
  log : ∃ G C cap, w'.cell? ⟨Lb, 0, none⟩ = some (.slice (some ⟨G, 0, none⟩) 1 cap) ∧ w'.cell? ⟨G, 0, none⟩ = some (.int .i64 col) ∧ w'.cell? ⟨G, 1, none⟩ = some (.string F) ∧ w'.cell? ⟨G, 2, none⟩ = some (.slice (some ⟨C, 0, none⟩) 2 2) ∧
    w'.cell? ⟨C, 0, none⟩ = some (.iface 9 (.string x)) ∧ w'.cell? ⟨C, 1, none⟩ = some (.iface 9 (.string y))

theorem app3 (a b c : Value) (rest : Array Value) : (#[a, b, c] ++ rest)[0]? = some a ∧ (#[a, b, c] ++ rest)[1]? = some b ∧ (#[a, b, c] ++ rest)[2]? = some c := by
  refine ⟨?_, ?_, ?_⟩ <;> simp [Array.getElem?_append]

theorem size_alloc' (w : World) (o : Obj) : (w.alloc o).heap.size = w.heap.size + 1 := by
  show (w.heap.push _).size = _
  simp

theorem rep_world {w W : World} {Lb : Nat} {col : Int} {F x y : ByteArray} (hb : Below w.heap.size w W) (hs : W.heap.size = w.heap.size + 1) (hL : Lb < w.heap.size) (k0 : W.cell? ⟨Lb, 0, none⟩ = some (.slice none 0 0))
    (c0 : W.cell? ⟨w.heap.size, 0, none⟩ = some (.iface 9 (.string x))) (c1 : W.cell? ⟨w.heap.size, 1, none⟩ = some (.iface 9 (.string y))) (cap : Nat) (o : Obj) (rest : Array Value) :
    Rep Lb col F x y w (((W.setCell ⟨Lb, 0, none⟩ (.slice (some ⟨W.heap.size + 1, 0, none⟩) 1 cap)).alloc o).alloc (.cells (#[.int .i64 col, .string F, .slice (some ⟨w.heap.size, 0, none⟩) 2 2] ++ rest) 26)).drew := by
  have z0 : (W.setCell ⟨Lb, 0, none⟩ (.slice (some ⟨W.heap.size + 1, 0, none⟩) 1 cap)).heap.size = W.heap.size := World.size_setCell ..
  have b0 : Below Lb w (W.setCell ⟨Lb, 0, none⟩ (.slice (some ⟨W.heap.size + 1, 0, none⟩) 1 cap)) := by
    have hb' : Below Lb w W := hb.mono (by omega)
    exact hb'.setCell (Nat.le_refl _) _
  have l0 : (W.setCell ⟨Lb, 0, none⟩ (.slice (some ⟨W.heap.size + 1, 0, none⟩) 1 cap)).cell? ⟨Lb, 0, none⟩ = some (.slice (some ⟨W.heap.size + 1, 0, none⟩) 1 cap) := World.cell?_setCell_same _ _ _ k0
  have n0 : Lb ≠ w.heap.size := by omega
  have d0 := (World.cell?_setCell_far W ⟨Lb, 0, none⟩ ⟨w.heap.size, 0, none⟩ (.slice (some ⟨W.heap.size + 1, 0, none⟩) 1 cap) n0).trans c0
  have d1 := (World.cell?_setCell_far W ⟨Lb, 0, none⟩ ⟨w.heap.size, 1, none⟩ (.slice (some ⟨W.heap.size + 1, 0, none⟩) 1 cap) n0).trans c1
  generalize W.setCell ⟨Lb, 0, none⟩ (.slice (some ⟨W.heap.size + 1, 0, none⟩) 1 cap) = V0 at z0 b0 l0 d0 d1 ⊢
  have z1 := size_alloc' V0 o
  have b1 : Below Lb w (V0.alloc o) := b0.alloc (by omega) o
  have e0 : (⟨Lb, 0, none⟩ : Addr).block < V0.heap.size := by show Lb < _; omega
  have e1 : ∀ j, (⟨w.heap.size, j, none⟩ : Addr).block < V0.heap.size := fun j => by show w.heap.size < _; omega
  have l1 := (World.cell?_alloc_lt V0 o _ (e0)).trans l0
  have f0 := (World.cell?_alloc_lt V0 o _ (e1 0)).trans d0
  have f1 := (World.cell?_alloc_lt V0 o _ (e1 1)).trans d1
  generalize V0.alloc o = V1 at z1 b1 l1 f0 f1 ⊢
  have g0 : (⟨Lb, 0, none⟩ : Addr).block < V1.heap.size := by show Lb < _; omega
  have g1 : ∀ j, (⟨w.heap.size, j, none⟩ : Addr).block < V1.heap.size := fun j => by show w.heap.size < _; omega
  have hz : V1.heap.size = W.heap.size + 1 := by omega
  rw [← hz] at l1
  refine ⟨(b1.alloc (by omega) _).drew, V1.heap.size, w.heap.size, cap, (World.cell?_alloc_lt V1 _ _ (g0)).trans l1, ?_, ?_, ?_, (World.cell?_alloc_lt V1 _ _ (g1 0)).trans f0, (World.cell?_alloc_lt V1 _ _ (g1 1)).trans f1⟩
  · exact (alloc_cell V1 _ 26 0).trans (app3 _ _ _ rest).1
  · exact (alloc_cell V1 _ 26 1).trans (app3 _ _ _ rest).2.1
  · exact (alloc_cell V1 _ 26 2).trans (app3 _ _ _ rest).2.2

set_option maxHeartbeats 1000000 in
theorem report (Lb A : Nat) (col : Int) (F x y : ByteArray) (w : World) (hl : w.cell? ⟨Lb, 0, none⟩ = some (.slice none 0 0)) (hz : w.frozen? ⟨Lb, 0, none⟩ = false) (hL : Lb < w.heap.size) (hA : A < w.heap.size)
    (a0 : w.cell? ⟨A, 0, none⟩ = some (.iface 9 (.string x))) (a1 : w.cell? ⟨A, 1, none⟩ = some (.iface 9 (.string y))) :
    Calls Ybad.prog 5 #[.int .i64 col, .string F, .slice (some ⟨A, 0, none⟩) 2 2, .pointer (some ⟨Lb, 0, none⟩)] w fun e w' => e = .returned (.tuple #[]) ∧ Rep Lb col F x y w w' := by
  have hmk := run_make2
  go_enter Ybad.func5, Ybad.ntmps5
  go_upto_region 1 with fail
  iterate 7 go_step
  refine wpList_copy_two (by rfl) (.tmp 11) (.tmp 12) 24 24 (by rfl) 20 Ybad.underlying24 size20 A (by rfl) (by rfl) hA _ _ _ _ 20 a0 a1 rfl rfl ?_
  obtain ⟨W, hW⟩ : ∃ W, W = w.alloc (.cells #[.iface 9 (.string x), .iface 9 (.string y)] 20) := ⟨_, rfl⟩
  have hb : Below w.heap.size w W := hW ▸ (Below.refl w.heap.size w).alloc (Nat.le_refl _) _
  have c0 : W.cell? ⟨w.heap.size, 0, none⟩ = some (.iface 9 (.string x)) := hW ▸ alloc_cell w #[.iface 9 (.string x), .iface 9 (.string y)] 20 0
  have c1 : W.cell? ⟨w.heap.size, 1, none⟩ = some (.iface 9 (.string y)) := hW ▸ alloc_cell w #[.iface 9 (.string x), .iface 9 (.string y)] 20 1
  have hs : W.heap.size = w.heap.size + 1 := by
    rw [hW]
    show (w.heap.push _).size = _
    simp
  have HB : Hid (Below w.heap.size w W) := hb
  rw [← hW]
  have k0 : W.cell? ⟨Lb, 0, none⟩ = some (.slice none 0 0) := (hb.cell hL).trans hl
  have k1 : W.frozen? ⟨Lb, 0, none⟩ = false := (hb.frozen hL).trans hz
  have hLW : Lb < W.heap.size := by omega
  have hL1 : ¬ Lb = W.heap.size := by omega
  have hL2 : ¬ Lb = W.heap.size + 1 := by omega
  have HS : Hid (W.heap.size = w.heap.size + 1) := hs
  clear hW hb hs
  go_wp2
  go_end0
  exact ⟨rfl, rep_world HB.out HS.out hL k0 c0 c1 _ _ _⟩
end Go.Proofs.YbulkdrosDoor
