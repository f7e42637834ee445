/-
  LawS5915CWhole: what the call's own memory holds (no walk here).
-/
import Derived.Test.YbulkdrmaRows
import Derived.WalkKit
import Derived.WalkSpells
import Derived.WalkLawsBesides
import Derived.Deep.OwnRows
namespace Go.Proofs.Ybulkdrma
open Go.RowKit Go.Deep

/-- What zzs5915cname computes. -/
def nameOf (s : Int) (nm : ByteArray) : ByteArray :=
  if (s % 5 == 0) = true then ⟨#[116, 97, 103]⟩ else if (s % 5 == 1) = true then ⟨#[116, 105, 109, 101]⟩ else if (s % 5 == 2) = true then ⟨#[107, 101, 121, 49]⟩ else if (s % 5 == 3) = true then ⟨#[36, 46, 97, 46, 98]⟩ else nm

theorem info37 : (Yba.prog.info? 37).map (fun i => (i.zero, i.size, i.bytes)) = some (some (.agg #[.pointer none, .string ⟨#[]⟩, .int .u64 0, .int .i64 0, .pointer none, .bool false]), 6, 56) := by kernel_rfl

def zeroKv (n : Nat) : Array Value := madeCells #[.pointer none, .string ⟨#[]⟩, .int .u64 0, .int .i64 0, .pointer none, .bool false] (n * 6)

theorem run_make_kv (n : Nat) (h : n ≤ 1048576) (w : World) :
    (Instr.makeSlice 23 (.int .i64 (n : Int)) (.int .i64 (n : Int))).run Yba.prog w = .ok (.slice (some ⟨w.heap.size, 0, none⟩) n n) (w.alloc (.cells (zeroKv n) 37)) := by
  obtain ⟨i, hi, hzz⟩ := Option.map_eq_some_iff.1 info37
  simp only [Prod.mk.injEq] at hzz
  obtain ⟨hz, hs, hb⟩ := hzz
  have hr := run_make (P := Yba.prog) w 23 37 i _ Yba.underlying23 hi hz .i64 .i64 n n (by omega) (Int.le_refl _) (by rw [hb]; omega) (by omega)
  rw [hs] at hr
  simpa [zeroKv, Value.cells] using hr

def kvCell (G : Nat → Nat) (X : Nat → ByteArray) (D : Nat → Bool) (k q : Nat) : Value :=
  if q < k * 6 then (match q % 6 with | 0 => .pointer (some ⟨G (q / 6), 0, none⟩) | 1 => .string (X (q / 6)) | 2 => .int .u64 0 | 3 => .int .i64 0 | 4 => .pointer none | _ => .bool (D (q / 6)))
  else (match q % 6 with | 0 => .pointer none | 1 => .string ⟨#[]⟩ | 2 => .int .u64 0 | 3 => .int .i64 0 | 4 => .pointer none | _ => .bool false)

/-- k of the n values are laid; value i's key lies in block G i. -/
structure KSt (w : World) (n : Nat) (K X : Nat → ByteArray) (D : Nat → Bool) (k : Nat) (G : Nat → Nat) (wr : World) : Prop where
  below : Below w.heap.size w wr
  row : wr.rowIs w.heap.size 37 (n * 6) (kvCell G X D k)
  keys : ∀ i, i < k → w.heap.size < G i ∧ wr.cell? ⟨G i, 0, none⟩ = some (.string (K i)) ∧ G i < wr.heap.size

theorem KSt.siz {w : World} {n : Nat} {K X : Nat → ByteArray} {D : Nat → Bool} {k : Nat} {G : Nat → Nat} {wr : World} (h : KSt w n K X D k G wr) : w.heap.size < wr.heap.size := h.row.lt

theorem KSt.start (w : World) (n : Nat) (K X : Nat → ByteArray) (D : Nat → Bool) (G : Nat → Nat) : KSt w n K X D 0 G (w.alloc (.cells (zeroKv n) 37)) := by
  refine ⟨(Below.refl _ _).alloc (Nat.le_refl _) _, ?_, fun i hi => absurd hi (by omega)⟩
  have h := World.rowIs_alloc w (zeroKv n) 37 (kvCell G X D 0) (fun i hi => by
    simp [zeroKv, size_madeCells] at hi
    have e : i % 6 = 0 ∨ i % 6 = 1 ∨ i % 6 = 2 ∨ i % 6 = 3 ∨ i % 6 = 4 ∨ i % 6 = 5 := by omega
    rcases e with e | e | e | e | e | e <;> simp [zeroKv, madeCells, hi, kvCell, e])
  rwa [show (zeroKv n).size = n * 6 from size_madeCells _ _] at h

theorem KSt.drew {w : World} {n : Nat} {K X : Nat → ByteArray} {D : Nat → Bool} {k : Nat} {G : Nat → Nat} {wr : World} (h : KSt w n K X D k G wr) : KSt w n K X D k G wr.drew := ⟨h.below.drew, h.row.drew, h.keys⟩

/-- New blocks turn nothing of it. -/
theorem KSt.later {w : World} {n : Nat} {K X : Nat → ByteArray} {D : Nat → Bool} {k : Nat} {G : Nat → Nat} {wr w' : World} (h : KSt w n K X D k G wr) (hb : Below wr.heap.size wr w') : KSt w n K X D k G w' := by
  have hs := h.siz
  have hz := hb.size
  exact ⟨h.below.trans (hb.mono (by omega)), h.row.of_block (hb.block _ hs), fun i hi => ⟨(h.keys i hi).1, (hb.cell (h.keys i hi).2.2).trans (h.keys i hi).2.1, by have := (h.keys i hi).2.2; omega⟩⟩

theorem kv_six (G : Nat → Nat) (X : Nat → ByteArray) (D : Nat → Bool) (n i : Nat) (hi : i < n) :
    kvCell G X D n (i * 6) = .pointer (some ⟨G i, 0, none⟩) ∧ kvCell G X D n (i * 6 + 1) = .string (X i) ∧ kvCell G X D n (i * 6 + 2) = .int .u64 0 ∧ kvCell G X D n (i * 6 + 3) = .int .i64 0 ∧ kvCell G X D n (i * 6 + 4) = .pointer none ∧ kvCell G X D n (i * 6 + 5) = .bool (D i) := by
  refine ⟨?_, ?_, ?_, ?_, ?_, ?_⟩
  · simp [kvCell, show i * 6 < n * 6 by omega]
  · simp [kvCell, show i * 6 + 1 < n * 6 by omega, show (i * 6 + 1) % 6 = 1 by omega, show (i * 6 + 1) / 6 = i by omega]
  · simp [kvCell, show i * 6 + 2 < n * 6 by omega, show (i * 6 + 2) % 6 = 2 by omega]
  · simp [kvCell, show i * 6 + 3 < n * 6 by omega, show (i * 6 + 3) % 6 = 3 by omega]
  · simp [kvCell, show i * 6 + 4 < n * 6 by omega, show (i * 6 + 4) % 6 = 4 by omega]
  · simp [kvCell, show i * 6 + 5 < n * 6 by omega, show (i * 6 + 5) % 6 = 5 by omega, show (i * 6 + 5) / 6 = i by omega]

theorem cell_in_block {w : World} {b o : Nat} {c : Array Value} {t : TypeId} {z : Nat × Nat} {v : Value} (h : w.heap[b]? = some (.cells c t z)) (hc : c[o]? = some v) : w.cell? ⟨b, o, none⟩ = some v := by
  simp [World.cell?, h, hc]

/-- The six cells of value k, as they are stored. -/
def six (wr : World) (B k g : Nat) (x : ByteArray) (d : Bool) : World :=
  (((((wr.setCell ⟨B, k * 6, none⟩ (.pointer (some ⟨g, 0, none⟩))).setCell ⟨B, k * 6 + 1, none⟩ (.string x)).setCell ⟨B, k * 6 + 2, none⟩ (.int .u64 0)).setCell ⟨B, k * 6 + 3, none⟩ (.int .i64 0)).setCell ⟨B, k * 6 + 4, none⟩ (.pointer none)).setCell ⟨B, k * 6 + 5, none⟩ (.bool d)

theorem six_size (wr : World) (B k g : Nat) (x : ByteArray) (d : Bool) : (six wr B k g x d).heap.size = wr.heap.size := by simp [six, World.setCell]

theorem six_block (wr : World) (B k g : Nat) (x : ByteArray) (d : Bool) (i : Nat) (hi : i ≠ B) : (six wr B k g x d).heap[i]? = wr.heap[i]? := by
  unfold six
  iterate 6 rw [Below.heap_setCell _ _ _ _ (by exact hi)]

theorem six_row {wr : World} {B n k g : Nat} {G : Nat → Nat} {X : Nat → ByteArray} {D : Nat → Bool} (h : wr.rowIs B 37 (n * 6) (kvCell G X D k)) : (six wr B k g (X k) (D k)).rowIs B 37 (n * 6) (kvCell (fun i => if i = k then g else G i) X D (k + 1)) := by
  refine ((((((h.set _ _).set _ _).set _ _).set _ _).set _ _).set _ _).congr fun q _ => ?_
  by_cases hq : q < k * 6
  · have e : q ≠ k * 6 ∧ q ≠ k * 6 + 1 ∧ q ≠ k * 6 + 2 ∧ q ≠ k * 6 + 3 ∧ q ≠ k * 6 + 4 ∧ q ≠ k * 6 + 5 := by omega
    have hd : q / 6 ≠ k := by omega
    simp [e, kvCell, hq, show q < (k + 1) * 6 by omega, hd]
  · by_cases hq2 : q < (k + 1) * 6
    · have e : q = k * 6 ∨ q = k * 6 + 1 ∨ q = k * 6 + 2 ∨ q = k * 6 + 3 ∨ q = k * 6 + 4 ∨ q = k * 6 + 5 := by omega
      rcases e with e | e | e | e | e | e
      · subst e; simp [kvCell, hq2]
      · subst e; simp [kvCell, hq2, show (k * 6 + 1) % 6 = 1 by omega, show (k * 6 + 1) / 6 = k by omega]
      · subst e; simp [kvCell, hq2, show (k * 6 + 2) % 6 = 2 by omega]
      · subst e; simp [kvCell, hq2, show (k * 6 + 3) % 6 = 3 by omega]
      · subst e; simp [kvCell, hq2, show (k * 6 + 4) % 6 = 4 by omega]
      · subst e; simp [kvCell, hq2, show (k * 6 + 5) % 6 = 5 by omega, show (k * 6 + 5) / 6 = k by omega]
    · have e : q ≠ k * 6 ∧ q ≠ k * 6 + 1 ∧ q ≠ k * 6 + 2 ∧ q ≠ k * 6 + 3 ∧ q ≠ k * 6 + 4 ∧ q ≠ k * 6 + 5 := by omega
      simp [e, kvCell, hq, hq2]

theorem keep_gen (u wr : World) (o1 o2 : Obj) (a : Addr) (hu : u.heap[a.block]? = wr.heap[a.block]?) (hs : a.block < u.heap.size) : ((u.alloc o1).alloc o2).drew.cell? a = wr.cell? a := by
  have h2 : ((u.alloc o1).alloc o2).heap[a.block]? = wr.heap[a.block]? := by
    rw [blk_alloc_lt _ _ _ (by simp; omega), blk_alloc_lt _ _ _ hs, hu]
  exact World.cell?_of_block (w := wr) (w' := ((u.alloc o1).alloc o2).drew) h2

theorem keep_cell (wr : World) (B k : Nat) (v0 v1 v2 v3 v4 v5 : Value) (o1 o2 : Obj) (a : Addr) (ha : ¬ a.block = B) (hb : a.block < wr.heap.size) :
    ((((((((wr.setCell ⟨B, k * 6, none⟩ v0).setCell ⟨B, k * 6 + 1, none⟩ v1).setCell ⟨B, k * 6 + 2, none⟩ v2).setCell ⟨B, k * 6 + 3, none⟩ v3).setCell ⟨B, k * 6 + 4, none⟩ v4).setCell ⟨B, k * 6 + 5, none⟩ v5).alloc o1).alloc o2).drew.cell? a = wr.cell? a := by
  refine keep_gen _ wr o1 o2 a ?_ (by simp only [World.size_setCell]; exact hb)
  iterate 6 rw [Below.heap_setCell _ _ _ _ (by exact ha)]

theorem six_below (wr : World) (B k g : Nat) (x : ByteArray) (d : Bool) : Below B wr (six wr B k g x d) :=
  (((((((Below.refl B wr).setCell (Nat.le_refl _) _).setCell (Nat.le_refl _) _).setCell (Nat.le_refl _) _).setCell (Nat.le_refl _) _).setCell (Nat.le_refl _) _).setCell (Nat.le_refl _) _)

/-- Value k is laid: the name's box, the key, the six cells. -/
theorem KSt.step {w : World} {n : Nat} {K X : Nat → ByteArray} {D : Nat → Bool} {k : Nat} {G : Nat → Nat} {wr : World} (h : KSt w n K X D k G wr) (o : Obj) :
    KSt w n K X D (k + 1) (fun i => if i = k then wr.heap.size + 1 else G i) (((six wr w.heap.size k (wr.heap.size + 1) (X k) (D k)).alloc o).alloc (.cells #[.string (K k), .int .i64 0, .slice none 0 0] 31)) := by
  have hs := h.siz
  have hz := six_size wr w.heap.size k (wr.heap.size + 1) (X k) (D k)
  have hsix := six_below wr w.heap.size k (wr.heap.size + 1) (X k) (D k)
  have hrow := six_row (g := wr.heap.size + 1) h.row
  have hblk := six_block wr w.heap.size k (wr.heap.size + 1) (X k) (D k)
  generalize six wr w.heap.size k (wr.heap.size + 1) (X k) (D k) = u at hz hsix hrow hblk ⊢
  refine ⟨(((h.below.trans hsix).alloc (by omega) _).alloc (by simp; omega) _), (hrow.alloc _).alloc _, fun i hi => ?_⟩
  by_cases e : i = k
  · subst e
    simp only [if_true]
    refine ⟨by omega, ?_, by simp; omega⟩
    have hn := blk_alloc_new (u.alloc o) (.cells #[.string (K i), .int .i64 0, .slice none 0 0] 31)
    have hsz : (u.alloc o).heap.size = wr.heap.size + 1 := by simp [hz]
    rw [hsz] at hn
    exact cell_in_block hn rfl
  · obtain ⟨k1, k2, k3⟩ := h.keys i (by omega)
    simp only [if_neg e]
    refine ⟨k1, ?_, by simp; omega⟩
    rw [← k2]
    refine World.cell?_of_block (w := wr) ?_
    show ((u.alloc o).alloc _).heap[G i]? = wr.heap[G i]?
    rw [blk_alloc_lt _ _ _ (by simp; omega), blk_alloc_lt _ _ _ (by omega)]
    exact hblk _ (by omega)

/-- All that the law has laid: the values and the chunk. -/
structure MC (w : World) (n : Nat) (K X : Nat → ByteArray) (D : Nat → Bool) (G : Nat → Nat) (CB : Nat) (wr : World) : Prop where
  k : KSt w n K X D n G wr
  cb : CB < wr.heap.size
  cid : wr.cell? ⟨CB, 0, none⟩ = some (.string ⟨#[120]⟩)
  cv : wr.cell? ⟨CB, 8, none⟩ = some (.slice (some ⟨w.heap.size, 0, none⟩) n n)

theorem MC.later {w : World} {n : Nat} {K X : Nat → ByteArray} {D : Nat → Bool} {G : Nat → Nat} {CB : Nat} {wr w' : World} (h : MC w n K X D G CB wr) (hb : Below wr.heap.size wr w') : MC w n K X D G CB w' :=
  ⟨h.k.later hb, Nat.lt_of_lt_of_le h.cb hb.size, (hb.cell h.cb).trans h.cid, (hb.cell h.cb).trans h.cv⟩

theorem MC.start {w : World} {n : Nat} {K X : Nat → ByteArray} {D : Nat → Bool} {G : Nat → Nat} {wr : World} (h : KSt w n K X D n G wr) (c : Array Value) (h0 : c[0]? = some (.string ⟨#[120]⟩)) (h8 : c[8]? = some (.slice (some ⟨w.heap.size, 0, none⟩) n n)) :
    MC w n K X D G wr.heap.size (wr.alloc (.cells c 43)) :=
  ⟨h.later ((Below.refl _ _).alloc (Nat.le_refl _) _), by simp, cell_in_block (blk_alloc_new _ _) h0, cell_in_block (blk_alloc_new _ _) h8⟩

theorem MC.kv {w : World} {n : Nat} {K X : Nat → ByteArray} {D : Nat → Bool} {G : Nat → Nat} {CB : Nat} {wr : World} (h : MC w n K X D G CB wr) {i : Nat} (hi : i < n) :
    wr.cell? ⟨w.heap.size, i * 6, none⟩ = some (.pointer (some ⟨G i, 0, none⟩)) ∧ wr.cell? ⟨w.heap.size, i * 6 + 1, none⟩ = some (.string (X i)) ∧ wr.cell? ⟨w.heap.size, i * 6 + 2, none⟩ = some (.int .u64 0) ∧
    wr.cell? ⟨w.heap.size, i * 6 + 3, none⟩ = some (.int .i64 0) ∧ wr.cell? ⟨w.heap.size, i * 6 + 4, none⟩ = some (.pointer none) ∧ wr.cell? ⟨w.heap.size, i * 6 + 5, none⟩ = some (.bool (D i)) := by
  obtain ⟨e0, e1, e2, e3, e4, e5⟩ := kv_six G X D n i hi
  refine ⟨?_, ?_, ?_, ?_, ?_, ?_⟩
  · rw [h.k.row.cell (by omega), e0]
  · rw [h.k.row.cell (by omega), e1]
  · rw [h.k.row.cell (by omega), e2]
  · rw [h.k.row.cell (by omega), e3]
  · rw [h.k.row.cell (by omega), e4]
  · rw [h.k.row.cell (by omega), e5]
end Go.Proofs.Ybulkdrma
