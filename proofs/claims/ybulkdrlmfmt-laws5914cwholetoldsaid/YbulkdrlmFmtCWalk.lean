/-
  LawS5914CWhole walked: up to 2^20 numbers it returns true and writes nothing that was there; beyond that it returns true at once.
-/
import Derived.Test.YbulkdrlmFmtCRec
import Derived.Test.YbulkdrlmFmtCCopy
import Derived.Deep.DeepCutAuto
namespace Go.Proofs.YbulkdrlmFmt
open Go.RowKit Go.Extern.Stop Go.Stop Go.Extern

theorem LawC.add_none (b off k : Nat) : (⟨b, off, none⟩ : Addr).add k = ⟨b, off + k, none⟩ := by
  by_cases h : k = 0
  · subst h; simp [Addr.add]
  · simp [Addr.add, h]

theorem info24 : (Ybaf.prog.info? 24).map (fun i => (i.zero, i.size, i.bytes)) = some (some (.int .u16 0), 1, 2) := by kernel_rfl
theorem size24 : (Ybaf.prog.info? 24).map (·.size) = some 1 := by kernel_rfl

/-- A slice of uint16 that came in: its numbers. -/
def Came (w : World) (ao : Option Addr) (n : Nat) (Z : Nat → Int) : Prop :=
  n = 0 ∨ ∃ bb off, ao = some ⟨bb, off, none⟩ ∧ bb < w.heap.size ∧ ∀ j, j < n → w.cell? ⟨bb, off + j, none⟩ = some (.int .u16 (Z j))

def zrow (M : Nat) : Array Value := madeCells #[.int .u16 0] M
theorem zrow_row (w : World) (M : Nat) : (w.alloc (.cells (zrow M) 24)).rowIs w.heap.size 24 M (fun _ => .int .u16 0) := World.rowIs_made _ _ _ _
theorem run_make24 (M : Nat) (h : M ≤ 1048576) (w : World) :
    (Instr.makeSlice 62 (.int .i64 (M : Int)) (.int .i64 (M : Int))).run Ybaf.prog w = .ok (.slice (some ⟨w.heap.size, 0, none⟩) M M) (w.alloc (.cells (zrow M) 24)) :=
  run_make_row' 62 24 (.int .u16 0) 2 Ybaf.underlying62 info24 rfl .i64 .i64 M (by omega) (by omega) w

/-- k of the M cells of ab are filled. -/
def AbSt (w : World) (M : Nat) (A : Nat → Int) (k : Nat) (wr : World) : Prop :=
  wr.rowIs w.heap.size 24 M (fun j => .int .u16 (if j < k then A j else 0)) ∧ Below w.heap.size w wr ∧ wr.heap.size = w.heap.size + 1

theorem AbSt.start (w : World) (M : Nat) (A : Nat → Int) : AbSt w M A 0 (w.alloc (.cells (zrow M) 24)) :=
  ⟨(zrow_row w M).congr fun i _ => by simp, (Below.refl _ _).alloc (Nat.le_refl _) _, by simp⟩
theorem AbSt.step {w : World} {M : Nat} {A : Nat → Int} {k : Nat} {wr : World} (h : AbSt w M A k wr) : AbSt w M A (k + 1) (wr.setCell ⟨w.heap.size, k, none⟩ (.int .u16 (A k))) := by
  refine ⟨(h.1.set k _).congr fun i _ => ?_, h.2.1.setCell (Nat.le_refl _) _, by simpa [World.setCell] using h.2.2⟩
  by_cases e : i = k
  · subst e; simp
  · have : (i < k + 1) ↔ (i < k) := by omega
    simp [this, e]

theorem AbSt.none {w : World} {M : Nat} {A : Nat → Int} (h : ∀ j, A j = 0) (k : Nat) : AbSt w M A k (w.alloc (.cells (zrow M) 24)) :=
  ⟨(zrow_row w M).congr fun i _ => by simp [h], (Below.refl _ _).alloc (Nat.le_refl _) _, by simp⟩

/-- c of the copies are made. -/
structure St (w : World) (M n : Nat) (A R : Nat → Int) (c : Nat) (wr : World) : Prop where
  below : Below w.heap.size w wr
  ab : wr.rowIs w.heap.size 24 M (fun j => .int .u16 (A j))
  cp : 1 ≤ c → wr.rowIs (w.heap.size + 1) 24 M (fun j => .int .u16 (A j))
  wk : 2 ≤ c → wr.rowIs (w.heap.size + 1 + 1) 24 n (fun j => .int .u16 (R j))
  ex : 3 ≤ c → wr.rowIs (w.heap.size + 1 + 1 + 1) 24 n (fun j => .int .u16 (R j))
  siz : wr.heap.size = w.heap.size + 1 + c

theorem St.of_ab {w : World} {M n : Nat} {A R : Nat → Int} {wr : World} (h : AbSt w M A M wr) : St w M n A R 0 wr :=
  ⟨h.2.1, h.1.congr fun i hi => by simp [hi], fun h => absurd h (by omega), fun h => absurd h (by omega), fun h => absurd h (by omega), h.2.2⟩

theorem St.one {w : World} {M n : Nat} {A R : Nat → Int} {wr w' : World} {o : Obj} (h : St w M n A R 0 wr) (hr : w'.rowIs (w.heap.size + 1) 24 M (fun j => .int .u16 (A j))) (hw : Wrote (w.heap.size + 1) (wr.alloc o) w') (hz : w'.heap.size = (wr.alloc o).heap.size) : St w M n A R 1 w' := by
  have hs := h.siz
  simp at hz
  exact ⟨hw.below (by omega) (h.below.alloc (by omega) _) (by simp; omega), hw.row (h.ab.alloc _) (by omega), fun _ => hr, fun h => absurd h (by omega), fun h => absurd h (by omega), by omega⟩

theorem St.two {w : World} {M n : Nat} {A R : Nat → Int} {wr w' : World} {o : Obj} (h : St w M n A R 1 wr) (hr : w'.rowIs (w.heap.size + 1 + 1) 24 n (fun j => .int .u16 (R j))) (hw : Wrote (w.heap.size + 1 + 1) (wr.alloc o) w') (hz : w'.heap.size = (wr.alloc o).heap.size) : St w M n A R 2 w' := by
  have hs := h.siz
  simp at hz
  exact ⟨hw.below (by omega) (h.below.alloc (by omega) _) (by simp; omega), hw.row (h.ab.alloc _) (by omega), fun _ => hw.row ((h.cp (by omega)).alloc _) (by omega), fun _ => hr, fun h => absurd h (by omega), by omega⟩

theorem St.three {w : World} {M n : Nat} {A R : Nat → Int} {wr w' : World} {o : Obj} (h : St w M n A R 2 wr) (hr : w'.rowIs (w.heap.size + 1 + 1 + 1) 24 n (fun j => .int .u16 (R j))) (hw : Wrote (w.heap.size + 1 + 1 + 1) (wr.alloc o) w') (hz : w'.heap.size = (wr.alloc o).heap.size) : St w M n A R 3 w' := by
  have hs := h.siz
  simp at hz
  exact ⟨hw.below (by omega) (h.below.alloc (by omega) _) (by simp; omega), hw.row (h.ab.alloc _) (by omega), fun _ => hw.row ((h.cp (by omega)).alloc _) (by omega), fun _ => hw.row ((h.wk (by omega)).alloc _) (by omega), fun _ => hr, by omega⟩

theorem Came.src {w wr : World} {ro : Option Addr} {n : Nat} {R : Nat → Int} (h : Came w ro n R) (hb : Below w.heap.size w wr) : ∀ j, j < n → ∃ ad, ro = some ad ∧ wr.cell? (ad.add j) = some (.int .u16 (R j)) := by
  intro j hj
  rcases h with rfl | ⟨bb, off, rfl, hbb, hc⟩
  · omega
  · exact ⟨_, rfl, by rw [LawC.add_none, hb.cell (by exact hbb)]; exact hc j hj⟩

/-- What the model's prev holds ahead of sample k. -/
def pw (sv first : Int) (R A : Nat → Int) : Nat → Int
  | 0 => 0
  | k + 1 => Vs sv first R A k

theorem wrap16_sum (p r : Int) : IntKind.u16.wrap (IntKind.u16.wrap p + r) = (p + r) % 65536 := by
  rw [IntKind.wrap_u16, IntKind.wrap_u16]; omega

/-- The model has seen k samples. -/
structure MSt (w : World) (M n : Nat) (A R : Nat → Int) (sv first b : Int) (k : Nat) (wr : World) : Prop where
  below : Below w.heap.size w wr
  ab : wr.rowIs w.heap.size 24 M (fun j => .int .u16 (A j))
  cp : wr.rowIs (w.heap.size + 1) 24 M (fun j => .int .u16 (A j))
  wk : wr.rowIs (w.heap.size + 1 + 1) 24 n (fun j => .int .u16 (R j))
  ex : wr.rowIs (w.heap.size + 1 + 2) 24 n (Mix (Vs sv first R A) R k)
  all : ∀ j, j < k → fitB b (Vs sv first R A j) = true

theorem MSt.start {w : World} {M n : Nat} {A R : Nat → Int} {sv first b : Int} {wr : World} (h : St w M n A R 3 wr) : MSt w M n A R sv first b 0 wr :=
  ⟨h.below, h.ab, h.cp (by omega), h.wk (by omega), (h.ex (by omega)).congr fun i _ => (Mix_zero _ _ _).symm, fun j hj => absurd hj (by omega)⟩

theorem MSt.drewN {w : World} {M n : Nat} {A R : Nat → Int} {sv first b : Int} {k : Nat} {wr : World} (h : MSt w M n A R sv first b k wr) (q : Nat) : MSt w M n A R sv first b k (wr.drewN q) :=
  ⟨below_drewN h.below q, h.ab, h.cp, h.wk, h.ex, h.all⟩

theorem MSt.step {w : World} {M n : Nat} {A R : Nat → Int} {sv first b : Int} {k : Nat} {wr : World} (h : MSt w M n A R sv first b k wr) (hf : fitB b (Vs sv first R A k) = true) :
    MSt w M n A R sv first b (k + 1) (wr.setCell ⟨w.heap.size + 1 + 2, k, none⟩ (.int .u16 (Vs sv first R A k))) :=
  ⟨h.below.setCell (by show _ ≤ w.heap.size + 1 + 2; omega) _, h.ab.setOther (by show _ ≠ w.heap.size + 1 + 2; omega) _, h.cp.setOther (by show _ ≠ w.heap.size + 1 + 2; omega) _, h.wk.setOther (by show _ ≠ w.heap.size + 1 + 2; omega) _, Mix_step h.ex,
    fun j hj => by
      by_cases e : j = k
      · subst e; exact hf
      · exact h.all j (by omega)⟩

theorem MSt.after {w : World} {M n : Nat} {A R : Nat → Int} {sv first b : Int} {k : Nat} {wr w' : World} (h : MSt w M n A R sv first b k wr) {X : Nat → Value} (_ : w'.rowIs (w.heap.size + 1 + 1) 24 n X) (hw : Wrote (w.heap.size + 1 + 1) wr w') :
    Below w.heap.size w w' ∧ w'.rowIs w.heap.size 24 M (fun j => .int .u16 (A j)) ∧ w'.rowIs (w.heap.size + 1) 24 M (fun j => .int .u16 (A j)) ∧ w'.rowIs (w.heap.size + 1 + 2) 24 n (Mix (Vs sv first R A) R k) :=
  ⟨hw.below (by omega) h.below h.below.size, hw.row h.ab (by omega), hw.row h.cp (by omega), hw.row h.ex (by omega)⟩

theorem fitB_hi {b v : Int} (h1 : b < 64) (h2 : 16 ≤ b) : fitB b v = true := by simp [fitB, h1, h2]
theorem fitB_no {b v : Int} (h1 : 64 ≤ b) : fitB b v = false := by
  have : ¬ b < 64 := by omega
  simp [fitB, this]
theorem fitB_lo {b : Int} (h0 : 0 ≤ b) (h1 : b < 16) (v : Int) : fitB b v = decide (v < wrap64 (2 ^ b.toNat)) := by
  have h3 : b < 64 := by omega
  have h4 : ¬ (16 ≤ b) := by omega
  have hp : (0 : Int) < 2 ^ b.toNat := Int.pow_pos (by omega)
  have hq : (2 : Int) ^ b.toNat ≤ 2 ^ 16 := by
    have := Nat.pow_le_pow_right (show 0 < 2 by omega) (show b.toNat ≤ 16 by omega)
    exact_mod_cast this
  have hq' : (2 : Int) ^ b.toNat ≤ 65536 := hq
  rw [IntWalk.wrap64_in _ ⟨by omega, by omega⟩]
  simp [fitB, h3, h4]

set_option maxRecDepth 100000 in
set_option maxHeartbeats 2000000 in
theorem cwalk_mid (F : Interp) (ro ao : Option Addr) (n m0 c0 c1 M : Nat) (sv first b : Int) (R Z A : Nat → Int) (w : World) (hs : n + m0 ≤ 1048576) (hM : Hid (M = if m0 < n then n else m0)) (hF : F.answers w.tape)
    (hb0 : 0 ≤ b) (hb1 : b ≤ 255) (hro : Hid (Came w ro n R)) (hao : Hid (Came w ao m0 Z)) (hA : Hid (∀ j, A j = if m0 = 0 then 0 else Z (j % m0))) (hAb : Hid (∀ j, 0 ≤ A j ∧ A j ≤ 65535)) (hRb : Hid (∀ j, j < n → 0 ≤ R j ∧ R j ≤ 65535)) :
    Calls Ybaf.prog 4 #[.slice ro n c0, .slice ao m0 c1, .int .i64 sv, .int .i64 first, .int .u8 b] w fun e w' => e = .returned (.bool true) ∧ Below w.heap.size w w' := by
  have hd0 : decide ((1048576 : Int) < (n : Int) + (m0 : Int)) = false := by simp; omega
  have hM2 : M ≤ 1048576 := by rw [hM.out]; split <;> omega
  have hmk1 := run_make24 M hM2
  have hmk2 := run_make24 n (by omega)
  go_enter Ybaf.func4, Ybaf.ntmps4
  go_upto_if 38 with fail
  go_cut [12] (fun v wx => v = .int .i64 M ∧ w = wx)
  case first =>
    go_wp2
    · go_meet
      case rel => exact ⟨by rw [hM.out, if_pos (by omega)], rfl⟩
    · go_meet
      case rel => exact ⟨by rw [hM.out, if_neg (by omega)], rfl⟩
  case rest =>
    obtain ⟨rfl, rfl⟩ := hcut
    have HS : Hid (AbSt w M A 0 (w.alloc (.cells (zrow M) 24))) := AbSt.start w M A
    go_upto_if 44 with fail
    go_cut [14] (fun _ wx => AbSt w M A M wx)
    case first =>
      rcases hao.out with hz | ⟨bb, off, rfl, hbb, hZ⟩
      · have HZ : Hid (AbSt w M A M (w.alloc (.cells (zrow M) 24))) := AbSt.none (fun j => by rw [hA.out, if_pos hz]) M
        subst hz
        go_wp2
        go_meet
        case rel => exact HZ.out
      · by_cases hz : m0 = 0
        · have HZ : Hid (AbSt w M A M (w.alloc (.cells (zrow M) 24))) := AbSt.none (fun j => by rw [hA.out, if_pos hz]) M
          subst hz
          go_wp2
          go_meet
          case rel => exact HZ.out
        · have hz1 : 0 < m0 := by omega
          have hd1 : decide ((0 : Int) < (m0 : Int)) = true := by simp; omega
          have HZ : Hid (∀ j, j < m0 → w.cell? ⟨bb, off + j, Option.none⟩ = some (.int .u16 (Z j))) := hZ
          clear hZ
          go_wp2
          go_loopg [14] M (fun q v wr => ∃ k : Nat, q + k = M ∧ v = .int .i64 k ∧ AbSt w M A k wr)
          case atStart => exact ⟨0, by omega, rfl, HS.out⟩
          case round =>
            obtain ⟨k, hk, rfl, hr⟩ := hrel
            have HR : Hid (AbSt w M A k wr) := hr
            by_cases hkM : k < M
            · have hd2 : decide ((k : Int) < (M : Int)) = true := by simp; omega
              have hmod : k % m0 < m0 := Nat.mod_lt _ hz1
              have c0 : wr.cell? ⟨bb, off + k % m0, Option.none⟩ = some (.int .u16 (A k)) := by
                rw [hr.2.1.cell (by exact hbb), hA.out, if_neg hz]; exact HZ.out _ hmod
              have c1 := hr.1.cell hkM
              have c2 := hr.1.frozen k
              clear hr
              go_wp2
              go_roundg (M - (k + 1))
              case measure => omega
              case rel => exact ⟨k + 1, by omega, by go_num, HR.out.step⟩
            · obtain rfl : M = k := by omega
              have hd2 : decide ((M : Int) < (M : Int)) = false := by simp
              clear hr
              go_wp2
              go_meet
              case rel => exact HR.out
    case rest =>
      have H0 : Hid (St w M n A R 0 wc) := St.of_ab hcut
      have z0 := hcut.2.2
      clear hcut HS
      go_upto_region 14 with fail
      iterate 7 go_step
      refine wpList_copy_rows (by rfl) (.tmp 62) (.tmp 63) 62 62 (by rfl) 24 Ybaf.underlying62 size24 (w.heap.size + 1) M M (some ⟨w.heap.size, 0, Option.none⟩) M (by rfl) (by rfl) 24 (fun _ => .int .u16 0) (fun j => .int .u16 (A j))
        (z0 ▸ zrow_row wc M) (fun j hj => ⟨_, rfl, by rw [LawC.add_none, Nat.zero_add]; exact (H0.out.ab.alloc _).cell hj⟩) (fun _ _ => rfl) ?_
      intro w2 r2 wr2 z2
      have H1 : Hid (St w M n A R 1 w2) := H0.out.one r2 wr2 z2
      clear r2 wr2 z2 H0 z0
      have z1 := H1.out.siz
      go_upto_region 16 with fail
      iterate 7 go_step
      refine wpList_copy_rows (by rfl) (.tmp 67) (.tmp 68) 62 62 (by rfl) 24 Ybaf.underlying62 size24 (w.heap.size + 1 + 1) n n ro c0 (by rfl) (by rfl) 24 (fun _ => .int .u16 0) (fun j => .int .u16 (R j))
        (z1 ▸ zrow_row w2 n) (hro.out.src ((H1.out.below.alloc (by omega) _))) (fun _ _ => rfl) ?_
      intro w3 r3 wr3 z3
      have H2 : Hid (St w M n A R 2 w3) := H1.out.two r3 wr3 z3
      clear r3 wr3 z3 H1 z1
      have z2 := H2.out.siz
      go_upto_region 18 with fail
      iterate 7 go_step
      refine wpList_copy_rows (by rfl) (.tmp 72) (.tmp 73) 62 62 (by rfl) 24 Ybaf.underlying62 size24 (w.heap.size + 1 + 1 + 1) n n ro c0 (by rfl) (by rfl) 24 (fun _ => .int .u16 0) (fun j => .int .u16 (R j))
        (z2 ▸ zrow_row w3 n) (hro.out.src ((H2.out.below.alloc (by omega) _))) (fun _ _ => rfl) ?_
      intro w4 r4 wr4 z4
      have H3 : Hid (St w M n A R 3 w4) := H2.out.three r4 wr4 z4
      clear r4 wr4 z4 H2 z2
      have z3 := H3.out.siz
      go_wp2
      go_loopg [18, 19, 20] n (fun q f pr i wr => ∃ k : Nat, q + k = n ∧ f = .int .i64 (-1) ∧ i = .int .i64 k ∧ pr = .int .i64 (pw sv first R A k) ∧ MSt w M n A R sv first b k wr)
      case atStart => exact ⟨0, by omega, rfl, rfl, rfl, MSt.start H3.out⟩
      case round =>
        clear z3 H3
        obtain ⟨k, hk, rfl, rfl, rfl, hm⟩ := hrel
        have HM : Hid (MSt w M n A R sv first b k wr) := hm
        by_cases hkn : k < n
        · have hd : decide ((k : Int) < (n : Int)) = true := by simp; omega
          obtain ⟨r0, r1⟩ := hRb.out k hkn
          obtain ⟨v0, v1⟩ := Vs_bd sv first R A k
          obtain ⟨bb, off, rfl, hbb, hc⟩ : ∃ bb off, ro = some ⟨bb, off, Option.none⟩ ∧ bb < w.heap.size ∧ ∀ j, j < n → w.cell? ⟨bb, off + j, Option.none⟩ = some (.int .u16 (R j)) := by
            rcases hro.out with h | h
            · omega
            · exact h
          have q0 : wr.cell? ⟨bb, off + k, Option.none⟩ = some (.int .u16 (R k)) := (hm.below.cell (by exact hbb)).trans (hc k hkn)
          have q1 := hm.ex.cell hkn
          have q2 := hm.ex.frozen k
          have q3 := hm.ab
          clear hc hm
          have HC : Hid (wr.rowIs w.heap.size 24 M (fun j => .int .u16 (A j))) := q3
          clear q3
          have hnM : n ≤ M := by rw [hM.out]; split <;> omega
          go_upto_if 82 with fail
          go_cut [21] (fun v wx => v = .int .i64 (prd sv first R A k) ∧ ∃ q, wx = wr.drewN q)
          case first =>
            by_cases hk0 : k = 0
            · subst hk0
              go_wp2
              go_meet
              case rel => exact ⟨rfl, 0, rfl⟩
            · obtain ⟨k', rfl⟩ : ∃ k', k = k' + 1 := ⟨k - 1, by omega⟩
              have hp0 : pw sv first R A (k' + 1) = Vs sv first R A k' := rfl
              have hp1 : prd sv first R A (k' + 1) = pF sv (Vs sv first R A k') (A (k' + 1)) (A k') := rfl
              have HP : Hid (prd sv first R A (k' + 1) = pF sv (Vs sv first R A k') (A (k' + 1)) (A k')) := hp1
              rw [hp0]
              clear hp0 hp1
              obtain ⟨u0, u1⟩ := Vs_bd sv first R A k'
              have ha : wr.cell? ⟨w.heap.size, k' + 1, Option.none⟩ = some (.int .u16 (A (k' + 1))) := HC.out.cell (show k' + 1 < M by omega)
              have hb : wr.cell? ⟨w.heap.size, k', Option.none⟩ = some (.int .u16 (A k')) := HC.out.cell (show k' < M by omega)
              obtain ⟨a0, a1⟩ := hAb.out (k' + 1)
              obtain ⟨d0, d1⟩ := hAb.out k'
              go_wp2
              go_quiet ((go_at_call 7; exact Calls.quiet_of_same (cpred_any _ _ _ _ _ (by omega) (by omega) (by omega) (by omega) (by omega) (by omega))))
              go_wp2
              go_meet
              case rel => exact ⟨by rw [HP.out], _, rfl⟩
          case rest =>
            obtain ⟨rfl, q, rfl⟩ := hcut
            have hv : IntKind.u16.wrap (IntKind.u16.wrap (prd sv first R A k) + R k) = Vs sv first R A k := (wrap16_sum _ _).trans (Vs_prd ..).symm
            generalize prd sv first R A k = pk at hv ⊢
            generalize hvk : Vs sv first R A k = vk at hv v0 v1
            have Hvk : Hid (Vs sv first R A k = vk) := hvk
            clear hvk
            go_upto_region 28 with fail
            go_cut [23] (fun v wx => v = .bool (fitB b vk) ∧ wr.drewN q = wx)
            case first =>
              by_cases h64 : b < 64
              · by_cases h16 : 16 ≤ b
                · go_wp2
                  go_meet
                  case rel => exact ⟨by rw [fitB_hi h64 h16], rfl⟩
                · go_wp2
                  go_meet
                  case rel => exact ⟨by rw [fitB_lo hb0 (by omega) vk], rfl⟩
              · go_wp2
                go_meet
                case rel => exact ⟨by rw [fitB_no (by omega)], rfl⟩
            case rest =>
              obtain ⟨rfl, rfl⟩ := hcut
              cases hfit : fitB b vk
              · have HK : Hid (MSt w M n A R sv first b k (wr.drewN q)) := HM.out.drewN q
                have HU : Hid (Stops (fun j => fitB b (Vs sv first R A j)) n k) := ⟨by omega, HM.out.all, fun _ => by rw [Hvk.out]; exact hfit⟩
                have hF8 : F.answers wr.tape := by rw [HM.out.below.tape]; exact hF
                go_wp2_with fail
                refine (rec_any F (w.heap.size + 1 + 1) w.heap.size n M sv first b R A _ hb0 hb1 (by omega) hnM (by exact hF8) (by omega) hRb.out hAb.out HK.out.wk HK.out.ab).mono ?_
                rintro e w8 ⟨i, hst, hrow, hwr, hcase⟩
                obtain rfl : i = k := hst.uniq HU.out
                obtain ⟨x1, x2, x3, x4⟩ := HK.out.after hrow hwr
                have X1 : Hid (Below w.heap.size w w8) := x1
                have X2 : Hid (w8.rowIs w.heap.size 24 M (fun j => .int .u16 (A j))) := x2
                have X3 : Hid (w8.rowIs (w.heap.size + 1) 24 M (fun j => .int .u16 (A j))) := x3
                have X4 : Hid (w8.rowIs (w.heap.size + 1 + 2) 24 n (fun j => .int .u16 (if j < i then Vs sv first R A j else R j))) := x4
                have X5 : Hid (w8.rowIs (w.heap.size + 1 + 1) 24 n (fun j => .int .u16 (if j < i then Vs sv first R A j else R j))) := hrow
                clear x1 x2 x3 x4 hrow hwr hst
                rcases hcase with ⟨hin, _⟩ | ⟨_, ae, rfl⟩
                · exact absurd hin (by omega)
                go_wp2_with fail
                refine (ceq_same (w.heap.size + 1 + 1) (w.heap.size + 1 + 2) n _ w8 (by omega) X5.out X4.out).mono ?_
                rintro e w9 ⟨rfl, d9, rfl⟩
                go_wp2_with fail
                refine (ceq_same w.heap.size (w.heap.size + 1) M _ (w8.drewN d9) hM2 X2.out X3.out).mono ?_
                rintro e w9 ⟨rfl, d10, rfl⟩
                go_wp2
                go_ret
                exact ⟨rfl, below_drewN X1.out _⟩
              · have HK : Hid (MSt w M n A R sv first b (k + 1) ((wr.drewN q).setCell ⟨w.heap.size + 1 + 2, k, Option.none⟩ (.int .u16 vk))) := by
                  rw [← Hvk.out]; exact (HM.out.drewN q).step (by rw [Hvk.out]; exact hfit)
                have HP : Hid (pw sv first R A (k + 1) = vk) := Hvk.out
                go_wp2
                go_roundg (n - (k + 1))
                case measure => omega
                case rel => exact ⟨k + 1, by omega, rfl, by go_num, by rw [HP.out], HK.out⟩
        · obtain rfl : k = n := by omega
          have hd : decide ((k : Int) < (k : Int)) = false := by simp
          have HK : Hid (MSt w M k A R sv first b k wr) := hm
          have HU : Hid (Stops (fun j => fitB b (Vs sv first R A j)) k k) := ⟨Nat.le_refl _, hm.all, fun h => absurd h (by omega)⟩
          have hF8 : F.answers wr.tape := by rw [hm.below.tape]; exact hF
          have hnM : k ≤ M := by rw [hM.out]; split <;> omega
          clear hm
          generalize pw sv first R A k = pk
          go_wp2_with fail
          refine (rec_any F (w.heap.size + 1 + 1) w.heap.size k M sv first b R A _ hb0 hb1 (by omega) hnM (by exact hF8) (by omega) hRb.out hAb.out HK.out.wk HK.out.ab).mono ?_
          rintro e w8 ⟨i, hst, hrow, hwr, hcase⟩
          obtain rfl : i = k := hst.uniq HU.out
          obtain ⟨x1, x2, x3, x4⟩ := HK.out.after hrow hwr
          have X1 : Hid (Below w.heap.size w w8) := x1
          have X2 : Hid (w8.rowIs w.heap.size 24 M (fun j => .int .u16 (A j))) := x2
          have X3 : Hid (w8.rowIs (w.heap.size + 1) 24 M (fun j => .int .u16 (A j))) := x3
          have X4 : Hid (w8.rowIs (w.heap.size + 1 + 2) 24 i (fun j => .int .u16 (if j < i then Vs sv first R A j else R j))) := x4
          have X5 : Hid (w8.rowIs (w.heap.size + 1 + 1) 24 i (fun j => .int .u16 (if j < i then Vs sv first R A j else R j))) := hrow
          clear x1 x2 x3 x4 hrow hwr hst
          rcases hcase with ⟨_, rfl⟩ | ⟨hin, _⟩
          · go_wp2_with fail
            refine (ceq_same (w.heap.size + 1 + 1) (w.heap.size + 1 + 2) i _ w8 (by omega) X5.out X4.out).mono ?_
            rintro e w9 ⟨rfl, d9, rfl⟩
            go_wp2_with fail
            refine (ceq_same w.heap.size (w.heap.size + 1) M _ (w8.drewN d9) hM2 X2.out X3.out).mono ?_
            rintro e w9 ⟨rfl, d10, rfl⟩
            go_wp2
            go_ret
            exact ⟨rfl, below_drewN X1.out _⟩
          · exact absurd hin (by omega)

theorem cwalk_out (ro ao : Option Addr) (n m0 c0 c1 : Nat) (sv first b : Int) (w : World) (hs : 1048576 < n + m0) (h1 : n ≤ 140737488355328) (h2 : m0 ≤ 140737488355328) :
    Calls Ybaf.prog 4 #[.slice ro n c0, .slice ao m0 c1, .int .i64 sv, .int .i64 first, .int .u8 b] w fun e w' => e = .returned (.bool true) ∧ Below w.heap.size w w' := by
  have hd0 : decide ((1048576 : Int) < (n : Int) + (m0 : Int)) = true := by simp; omega
  go_enter Ybaf.func4, Ybaf.ntmps4
  go_wp2
  go_ret
  exact ⟨rfl, Below.refl _ _⟩
end Go.Proofs.YbulkdrlmFmt
