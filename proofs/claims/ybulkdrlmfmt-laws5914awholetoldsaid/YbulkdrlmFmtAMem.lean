/-
  LawS5914AWhole: the components, the frame and the decoder in the call's own memory (no walk here).
-/
import Derived.Test.YbulkdrlmFmtATabs
namespace Go.Proofs.YbulkdrlmFmt
open Go.RowKit Go.Deep

theorem info35 : (Ybaf.prog.info? 35).map (fun i => (i.zero, i.size, i.bytes)) = some (some (.agg #[.int .u8 0, .int .i64 0, .int .i64 0, .int .i64 0]), 4, 32) := by kernel_rfl

def zeroComps (n : Nat) : Array Value := madeCells #[.int .u8 0, .int .i64 0, .int .i64 0, .int .i64 0] (n * 4)

theorem run_make_comps (n : Nat) (h : n ≤ 1048576) (w : World) :
    (Instr.makeSlice 31 (.int .i64 (n : Int)) (.int .i64 (n : Int))).run Ybaf.prog w = .ok (.slice (some ⟨w.heap.size, 0, none⟩) n n) (w.alloc (.cells (zeroComps n) 35)) := by
  obtain ⟨i, hi, hzz⟩ := Option.map_eq_some_iff.1 info35
  simp only [Prod.mk.injEq] at hzz
  obtain ⟨hz, hs, hb⟩ := hzz
  have hr := run_make (P := Ybaf.prog) w 31 35 i _ Ybaf.underlying31 hi hz .i64 .i64 n n (by omega) (Int.le_refl _) (by rw [hb]; omega) (by omega)
  rw [hs] at hr
  simpa [zeroComps, Value.cells] using hr

def compCell (I T : Nat → Int) (m q : Nat) : Value :=
  if q < m * 4 then (match q % 4 with | 0 => .int .u8 (I (q / 4)) | 1 => .int .i64 1 | 2 => .int .i64 1 | _ => .int .i64 (T (q / 4) % 4))
  else if q % 4 = 0 then .int .u8 0 else .int .i64 0

structure CompSt (I T : Nat → Int) (n : Nat) (wo : World) (m : Nat) (wr : World) : Prop where
  below : Below wo.heap.size wo wr
  row : wr.rowIs wo.heap.size 35 (n * 4) (compCell I T m)

theorem CompSt.start (I T : Nat → Int) (n : Nat) (wo : World) : CompSt I T n wo 0 (wo.alloc (.cells (zeroComps n) 35)) := by
  refine ⟨(Below.refl _ _).alloc (Nat.le_refl _) _, ?_⟩
  have h := World.rowIs_alloc wo (zeroComps n) 35 (compCell I T 0) (fun i hi => by
    simp [zeroComps, size_madeCells] at hi
    have e : i % 4 = 0 ∨ i % 4 = 1 ∨ i % 4 = 2 ∨ i % 4 = 3 := by omega
    rcases e with e | e | e | e <;> simp [zeroComps, madeCells, hi, compCell, e])
  rwa [show (zeroComps n).size = n * 4 from size_madeCells _ _] at h

theorem CompSt.drew {I T : Nat → Int} {n : Nat} {wo : World} {m : Nat} {wr : World} (h : CompSt I T n wo m wr) : CompSt I T n wo m wr.drew := ⟨h.below.drew, h.row.drew⟩

theorem CompSt.cells {I T : Nat → Int} {n : Nat} {wo : World} {m : Nat} {wr : World} (h : CompSt I T n wo m wr) (hm : m < n) :
    (∃ v, wr.cell? ⟨wo.heap.size, m * 4, none⟩ = some v) ∧ (∃ v, wr.cell? ⟨wo.heap.size, m * 4 + 1, none⟩ = some v) ∧ (∃ v, wr.cell? ⟨wo.heap.size, m * 4 + 2, none⟩ = some v) ∧ (∃ v, wr.cell? ⟨wo.heap.size, m * 4 + 3, none⟩ = some v) :=
  ⟨⟨_, h.row.cell (by omega)⟩, ⟨_, h.row.cell (by omega)⟩, ⟨_, h.row.cell (by omega)⟩, ⟨_, h.row.cell (by omega)⟩⟩

theorem CompSt.step {I T : Nat → Int} {n : Nat} {wo : World} {m : Nat} {wr : World} (h : CompSt I T n wo m wr) :
    CompSt I T n wo (m + 1) ((((wr.setCell ⟨wo.heap.size, m * 4, none⟩ (.int .u8 (I m))).setCell ⟨wo.heap.size, m * 4 + 1, none⟩ (.int .i64 1)).setCell ⟨wo.heap.size, m * 4 + 2, none⟩ (.int .i64 1)).setCell ⟨wo.heap.size, m * 4 + 3, none⟩ (.int .i64 (T m % 4))) := by
  refine ⟨(((h.below.setCell (Nat.le_refl _) _).setCell (Nat.le_refl _) _).setCell (Nat.le_refl _) _).setCell (Nat.le_refl _) _, ((((h.row.set _ _).set _ _).set _ _).set _ _).congr fun q _ => ?_⟩
  by_cases e0 : q = m * 4
  · subst e0; simp [compCell, show m * 4 < (m + 1) * 4 by omega]
  by_cases e1 : q = m * 4 + 1
  · subst e1; simp [compCell, show m * 4 + 1 < (m + 1) * 4 by omega, show (m * 4 + 1) % 4 = 1 by omega]
  by_cases e2 : q = m * 4 + 2
  · subst e2; simp [compCell, show m * 4 + 2 < (m + 1) * 4 by omega, show (m * 4 + 2) % 4 = 2 by omega]
  by_cases e3 : q = m * 4 + 3
  · subst e3; simp [compCell, show m * 4 + 3 < (m + 1) * 4 by omega, show (m * 4 + 3) % 4 = 3 by omega, show (m * 4 + 3) / 4 = m by omega]
  · simp only [e0, e1, e2, e3, if_false, compCell]
    have : (q < (m + 1) * 4) ↔ (q < m * 4) := by omega
    simp only [this]

theorem compCell_full (I T : Nat → Int) (n m : Nat) (hm : m < n) :
    compCell I T n (m * 4) = .int .u8 (I m) ∧ compCell I T n (m * 4 + 1) = .int .i64 1 ∧ compCell I T n (m * 4 + 2) = .int .i64 1 ∧ compCell I T n (m * 4 + 3) = .int .i64 (T m % 4) := by
  refine ⟨?_, ?_, ?_, ?_⟩
  · simp [compCell, show m * 4 < n * 4 by omega]
  · simp [compCell, show m * 4 + 1 < n * 4 by omega, show (m * 4 + 1) % 4 = 1 by omega]
  · simp [compCell, show m * 4 + 2 < n * 4 by omega, show (m * 4 + 2) % 4 = 2 by omega]
  · simp [compCell, show m * 4 + 3 < n * 4 by omega, show (m * 4 + 3) % 4 = 3 by omega, show (m * 4 + 3) / 4 = m by omega]

theorem TabSt.later {B : Nat} {p : Nat → Bool} {f : Nat → Int} {w : World} {k : Nat} {G : Nat → Nat} {wr w' : World} (h : TabSt B p f w k G wr) (hb : Below wr.heap.size wr w') : TabSt B p f w k G w' := by
  have hs := h.siz
  have hz := hb.size
  exact ⟨h.below.trans (hb.mono (by omega)), rowIs_below hb h.pres (by omega), rowIs_below hb h.fill (by omega), rowIs_below hb h.tabs (by omega),
    fun j hj hp => ⟨(h.rows j hj hp).1, rowIs_below hb (h.rows j hj hp).2 (h.rows j hj hp).2.lt⟩, by omega⟩

theorem cell_in_block {w : World} {b o : Nat} {c : Array Value} {t : TypeId} {z : Nat × Nat} {v : Value} (h : w.heap[b]? = some (.cells c t z)) (hc : c[o]? = some v) : w.cell? ⟨b, o, none⟩ = some v := by
  simp [World.cell?, h, hc]

/-- Where table j lies, if anywhere. -/
def tpOf (p : Nat → Bool) (G : Nat → Nat) (j : Nat) : Option Addr := if p j = true ∧ j < 4 then some ⟨G j, 0, none⟩ else none

theorem tpOf_yes {p : Nat → Bool} {G : Nat → Nat} {j : Nat} (h : p j = true) (hj : j < 4) : tpOf p G j = some ⟨G j, 0, none⟩ := by simp [tpOf, h, hj]
theorem tpOf_no {p : Nat → Bool} {G : Nat → Nat} {j : Nat} (h : p j = false) : tpOf p G j = none := by simp [tpOf, h]

/-- All that the law has laid. -/
structure MemA (p : Nat → Bool) (f : Nat → Int) (I T : Nat → Int) (n : Nat) (w : World) (G : Nat → Nat) (C Fb D : Nat) (wr : World) : Prop where
  tab : TabSt w.heap.size p f w 4 G wr
  comp : wr.rowIs C 35 (n * 4) (compCell I T n)
  fb : Fb < wr.heap.size
  db : D < wr.heap.size
  fr : wr.cell? ⟨Fb, 4, none⟩ = some (.slice (some ⟨C, 0, none⟩) n n)
  d1 : wr.cell? ⟨D, 1, none⟩ = some (.pointer (some ⟨Fb, 0, none⟩))
  dq : ∀ j, j < 4 → wr.cell? ⟨D, 10 + j, none⟩ = some (.pointer (tpOf p G j))

theorem MemA.later {p : Nat → Bool} {f I T : Nat → Int} {n : Nat} {w : World} {G : Nat → Nat} {C Fb D : Nat} {wr w' : World} (h : MemA p f I T n w G C Fb D wr) (hb : Below wr.heap.size wr w') : MemA p f I T n w G C Fb D w' := by
  have hz := hb.size
  exact ⟨h.tab.later hb, rowIs_below hb h.comp h.comp.lt, Nat.lt_of_lt_of_le h.fb hz, Nat.lt_of_lt_of_le h.db hz, (hb.cell h.fb).trans h.fr, (hb.cell h.db).trans h.d1, fun j hj => (hb.cell h.db).trans (h.dq j hj)⟩

theorem MemA.drew {p : Nat → Bool} {f I T : Nat → Int} {n : Nat} {w : World} {G : Nat → Nat} {C Fb D : Nat} {wr : World} (h : MemA p f I T n w G C Fb D wr) : MemA p f I T n w G C Fb D wr.drew :=
  h.later (Below.refl _ _).drew

theorem MemA.tabCell {p : Nat → Bool} {f I T : Nat → Int} {n : Nat} {w : World} {G : Nat → Nat} {C Fb D : Nat} {wr : World} (h : MemA p f I T n w G C Fb D wr) {j : Nat} (hj : j < 4) :
    wr.cell? ⟨w.heap.size + 1 + 1, j, none⟩ = some (.pointer (tpOf p G j)) := h.tab.tabs.cell hj

theorem MemA.comps {p : Nat → Bool} {f I T : Nat → Int} {n : Nat} {w : World} {G : Nat → Nat} {C Fb D : Nat} {wr : World} (h : MemA p f I T n w G C Fb D wr) {m : Nat} (hm : m < n) :
    wr.cell? ⟨C, m * 4, none⟩ = some (.int .u8 (I m)) ∧ wr.cell? ⟨C, m * 4 + 1, none⟩ = some (.int .i64 1) ∧ wr.cell? ⟨C, m * 4 + 2, none⟩ = some (.int .i64 1) ∧ wr.cell? ⟨C, m * 4 + 3, none⟩ = some (.int .i64 (T m % 4)) := by
  obtain ⟨e0, e1, e2, e3⟩ := compCell_full I T n m hm
  refine ⟨?_, ?_, ?_, ?_⟩
  · rw [h.comp.cell (by omega), e0]
  · rw [h.comp.cell (by omega), e1]
  · rw [h.comp.cell (by omega), e2]
  · rw [h.comp.cell (by omega), e3]

/-- The frame and the decoder are boxed. -/
theorem MemA.start {p : Nat → Bool} {f I T : Nat → Int} {n : Nat} {w wo wr : World} {G : Nat → Nat} (ht : TabSt w.heap.size p f w 4 G wo) (hc : CompSt I T n wo n wr) (t0 t1 t2 t3 : Option Addr)
    (e0 : t0 = tpOf p G 0) (e1 : t1 = tpOf p G 1) (e2 : t2 = tpOf p G 2) (e3 : t3 = tpOf p G 3) (fo do_ : Array Value)
    (hf : fo[4]? = some (.slice (some ⟨wo.heap.size, 0, none⟩) n n)) (h1 : do_[1]? = some (.pointer (some ⟨wr.heap.size, 0, none⟩)))
    (d0 : do_[10]? = some (.pointer t0)) (d1 : do_[11]? = some (.pointer t1)) (d2 : do_[12]? = some (.pointer t2)) (d3 : do_[13]? = some (.pointer t3)) :
    MemA p f I T n w G wo.heap.size wr.heap.size (wr.heap.size + 1) ((wr.alloc (.cells fo 38)).alloc (.cells do_ 56)) := by
  have hb : Below wr.heap.size wr ((wr.alloc (.cells fo 38)).alloc (.cells do_ 56)) := ((Below.refl _ _).alloc (Nat.le_refl _) _).alloc (by simp) _
  have hd : ((wr.alloc (.cells fo 38)).alloc (.cells do_ 56)).heap[wr.heap.size + 1]? = some (.cells do_ 56 (0, 0)) := by
    have := blk_alloc_new (wr.alloc (.cells fo 38)) (.cells do_ 56)
    simpa using this
  have hf' : ((wr.alloc (.cells fo 38)).alloc (.cells do_ 56)).heap[wr.heap.size]? = some (.cells fo 38 (0, 0)) := by
    rw [blk_alloc_lt _ _ _ (by simp)]
    exact blk_alloc_new _ _
  refine ⟨(ht.later hc.below).later hb, rowIs_below hb hc.row hc.row.lt, by simp; omega, by simp, ?_, ?_, fun j hj => ?_⟩
  · exact cell_in_block hf' hf
  · exact cell_in_block hd h1
  · have e : j = 0 ∨ j = 1 ∨ j = 2 ∨ j = 3 := by omega
    subst e0 e1 e2 e3
    rcases e with rfl | rfl | rfl | rfl
    · exact cell_in_block hd d0
    · exact cell_in_block hd d1
    · exact cell_in_block hd d2
    · exact cell_in_block hd d3
end Go.Proofs.YbulkdrlmFmt
