/-
  LawS5914AWhole: what the call's own memory holds while the tables are laid (no walk here).
-/
import Derived.Test.YbulkdrlmFmtLeaf
import Derived.Deep.OwnRows
namespace Go.Proofs.YbulkdrlmFmt
open Go.RowKit

def sel4 {α : Type} (a b c d : α) : Nat → α
  | 0 => a
  | 1 => b
  | 2 => c
  | _ => d

theorem rowIs_below {B : Nat} {w w' : World} (h : Below B w w') {b : Nat} {t : TypeId} {n : Nat} {f : Nat → Value} (hr : w.rowIs b t n f) (hb : b < B) : w'.rowIs b t n f :=
  hr.of_block (h.block b hb)

/-- k tables have been seen to: table j is laid (in block G j) just where p j. -/
structure TabSt (B : Nat) (p : Nat → Bool) (f : Nat → Int) (w : World) (k : Nat) (G : Nat → Nat) (wr : World) : Prop where
  below : Below B w wr
  pres : wr.rowIs B 23 4 (fun j => .bool (p j))
  fill : wr.rowIs (B + 1) 25 4 (fun j => .int .u16 (f j))
  tabs : wr.rowIs (B + 2) 28 4 (fun j => .pointer (if p j = true ∧ j < k then some ⟨G j, 0, none⟩ else none))
  rows : ∀ j, j < k → p j = true → B + 3 ≤ G j ∧ wr.rowIs (G j) 29 64 (fun i => .int .u16 (cellv (f j) j i))
  siz : B + 3 ≤ wr.heap.size

theorem TabSt.start (w : World) (p0 p1 p2 p3 : Bool) (f0 f1 f2 f3 : Int) (G : Nat → Nat) :
    TabSt w.heap.size (sel4 p0 p1 p2 p3) (sel4 f0 f1 f2 f3) w 0 G (((w.alloc (.cells #[.bool p0, .bool p1, .bool p2, .bool p3] 23)).alloc
      (.cells #[.int .u16 f0, .int .u16 f1, .int .u16 f2, .int .u16 f3] 25)).alloc (.cells #[.pointer none, .pointer none, .pointer none, .pointer none] 28)) := by
  have four : ∀ i : Nat, i < 4 → i = 0 ∨ i = 1 ∨ i = 2 ∨ i = 3 := by omega
  refine ⟨(((Below.refl _ _).alloc (Nat.le_refl _) _).alloc (by simp) _).alloc (by simp; omega) _, ?_, ?_, ?_, fun j hj => by omega, by simp⟩
  · have h := World.rowIs_alloc w #[.bool p0, .bool p1, .bool p2, .bool p3] 23 (fun j => .bool (sel4 p0 p1 p2 p3 j)) (fun i hi => by
      rcases four i hi with rfl | rfl | rfl | rfl <;> rfl)
    exact (h.alloc _).alloc _
  · have h := World.rowIs_alloc (w.alloc (.cells #[.bool p0, .bool p1, .bool p2, .bool p3] 23)) #[.int .u16 f0, .int .u16 f1, .int .u16 f2, .int .u16 f3] 25 (fun j => .int .u16 (sel4 f0 f1 f2 f3 j)) (fun i hi => by
      rcases four i hi with rfl | rfl | rfl | rfl <;> rfl)
    simpa using h.alloc _
  · have h := World.rowIs_alloc ((w.alloc (.cells #[.bool p0, .bool p1, .bool p2, .bool p3] 23)).alloc (.cells #[.int .u16 f0, .int .u16 f1, .int .u16 f2, .int .u16 f3] 25)) #[.pointer none, .pointer none, .pointer none, .pointer none] 28
      (fun j => .pointer (if sel4 p0 p1 p2 p3 j = true ∧ j < 0 then some ⟨G j, 0, none⟩ else none)) (fun i hi => by
      rcases four i hi with rfl | rfl | rfl | rfl <;> simp)
    simpa using h

theorem TabSt.no {B : Nat} {p : Nat → Bool} {f : Nat → Int} {w : World} {k : Nat} {G : Nat → Nat} {wr : World} (h : TabSt B p f w k G wr) (hp : p k = false) : TabSt B p f w (k + 1) G wr := by
  refine ⟨h.below, h.pres, h.fill, h.tabs.congr fun i _ => ?_, fun j hj hpj => ?_, h.siz⟩
  · by_cases e : i = k
    · subst e; simp [hp]
    · have : (i < k + 1) ↔ (i < k) := by omega
      simp only [this]
  · by_cases e : j = k
    · subst e; rw [hp] at hpj; cases hpj
    · exact h.rows j (by omega) hpj

theorem TabSt.yes {B : Nat} {p : Nat → Bool} {f : Nat → Int} {w : World} {k : Nat} {G : Nat → Nat} {wr wi : World} (h : TabSt B p f w k G wr) (hp : p k = true) (hb : Below wr.heap.size wr wi)
    (hr : wi.rowIs wr.heap.size 29 64 (fun i => .int .u16 (cellv (f k) k i))) :
    TabSt B p f w (k + 1) (fun j => if j = k then wr.heap.size else G j) (wi.setCell ⟨B + 2, k, none⟩ (.pointer (some ⟨wr.heap.size, 0, none⟩))) := by
  have hs := h.siz
  have hz := hb.size
  refine ⟨(h.below.trans (hb.mono (by omega))).setCell (by simp) _, ?_, ?_, ?_, fun j hj hpj => ?_, by simp [World.setCell]; omega⟩
  · exact (rowIs_below hb h.pres (by omega)).setOther (by simp) _
  · exact (rowIs_below hb h.fill (by omega)).setOther (by simp) _
  · refine ((rowIs_below hb h.tabs (by omega)).set k _).congr fun i _ => ?_
    by_cases e : i = k
    · subst e; simp [hp]
    · have : (i < k + 1) ↔ (i < k) := by omega
      simp only [this, if_neg e]
  · by_cases e : j = k
    · subst e
      simp only [if_true]
      exact ⟨hs, hr.setOther (by simp; omega) _⟩
    · have := h.rows j (by omega) hpj
      rw [if_neg e]
      exact ⟨this.1, (rowIs_below hb this.2 this.2.lt).setOther (by simp; omega) _⟩

/-- The table in hand: m of its 64 cells are filled. -/
structure RowSt (fk : Int) (k : Nat) (wr : World) (m : Nat) (wi : World) : Prop where
  below : Below wr.heap.size wr wi
  row : wi.rowIs wr.heap.size 29 64 (fun i => .int .u16 (if i < m then cellv fk k i else 0))

theorem RowSt.start (fk : Int) (k : Nat) (wr : World) : RowSt fk k wr 0 (wr.alloc (.cells (Array.replicate 64 (.int .u16 0)) 29)) := by
  refine ⟨(Below.refl _ _).alloc (Nat.le_refl _) _, ?_⟩
  have h := World.rowIs_alloc wr (Array.replicate 64 (.int .u16 0)) 29 (fun i => .int .u16 (if i < 0 then cellv fk k i else 0)) (fun i hi => by simp at hi; simp [hi])
  simpa using h

theorem RowSt.step {fk : Int} {k : Nat} {wr : World} {m : Nat} {wi : World} (h : RowSt fk k wr m wi) : RowSt fk k wr (m + 1) (wi.setCell ⟨wr.heap.size, m, none⟩ (.int .u16 (cellv fk k m))) := by
  refine ⟨h.below.setCell (Nat.le_refl _) _, (h.row.set m _).congr fun i _ => ?_⟩
  by_cases e : i = m
  · subst e; simp
  · have : (i < m + 1) ↔ (i < m) := by omega
    simp only [this, if_neg e]

theorem RowSt.drew {fk : Int} {k : Nat} {wr : World} {m : Nat} {wi : World} (h : RowSt fk k wr m wi) : RowSt fk k wr m wi.drew := ⟨h.below.drew, h.row.drew⟩

theorem RowSt.full {fk : Int} {k : Nat} {wr : World} {wi : World} (h : RowSt fk k wr 64 wi) : wi.rowIs wr.heap.size 29 64 (fun i => .int .u16 (cellv fk k i)) :=
  h.row.congr fun i hi => by simp [hi]
end Go.Proofs.YbulkdrlmFmt
