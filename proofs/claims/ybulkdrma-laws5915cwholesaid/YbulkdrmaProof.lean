/-
  LawS5915CWhole: the row.
-/
import Derived.Test.YbulkdrmaWalk
import Derived.ProofKit
import Derived.OpenShut
import Derived.ShutString
import Derived.ChangeOld
import Derived.Below
import Derived.Deep.Slices
namespace Go.Proofs.Ybulkdrma
open Go.ChangeShapes Go.WideShapes Go.ChangeAt Go.RowKit Go.Deep
namespace LawC

theorem own : ownKnob Yba.prog.godebug = none := by kernel_rfl
theorem laidOut : laidOutB Yba.prog = true := by kernel_rfl
theorem cells27 : Yba.prog.cellsOf 27 = 4 := by kernel_rfl
theorem cells5 : Yba.prog.cellsOf 5 = 1 := by kernel_rfl
theorem cells9 : Yba.prog.cellsOf 9 = 1 := by kernel_rfl
theorem cells4 : Yba.prog.cellsOf 4 = 1 := by kernel_rfl

theorem add_none (b off k : Nat) : (⟨b, off, none⟩ : Addr).add k = ⟨b, off + k, none⟩ := by
  by_cases h : k = 0
  · subst h; simp [Addr.add]
  · simp [Addr.add, h]

/-- One element, its four cells. -/
theorem elem {H : Type} {enc : TypeId × Value → H} {W : World} {a : Addr} {fuel : Nat} {cs : List Value} {x : DataW H × List MemPlace} (h1 : W.cells? 0 a 4 = some cs) (h2 : DataW.trod enc Yba.prog W 0 (fun _ => true) true fuel 27 cs = some x) :
    ∃ q : Int × ByteArray × ByteArray × Bool, W.cell? (a.add 0) = some (.int .u8 q.1) ∧ W.cell? (a.add 1) = some (.string q.2.1) ∧ W.cell? (a.add 2) = some (.string q.2.2.1) ∧ W.cell? (a.add 3) = some (.bool q.2.2.2) ∧ 0 ≤ q.1 ∧ q.1 ≤ 255 := by
  obtain ⟨_, hlen, hcell⟩ := World.cells?_some h1
  obtain ⟨xs, k, _, _, _, hxl, hf⟩ := DataW.trod_struct Yba.underlying27 h2
  match xs, hxl, cs, hlen with
  | [y0, y1, y2, y3], _, [v0, v1, v2, v3], _ =>
    have g0 := hf 0 _ rfl
    have g1 := hf 1 _ rfl
    have g2 := hf 2 _ rfl
    have g3 := hf 3 _ rfl
    simp [cells5, cells9, cells4] at g0 g1 g2 g3
    obtain ⟨s, e0, _, ws⟩ := DataW.trod_int Yba.underlying5 g0
    obtain ⟨t1, e1, _⟩ := DataW.trod_string Yba.underlying9 g1
    obtain ⟨t2, e2, _⟩ := DataW.trod_string Yba.underlying9 g2
    obtain ⟨d, e3, _⟩ := DataW.trod_bool Yba.underlying4 g3
    simp at e0 e1 e2 e3
    subst e0 e1 e2 e3
    have c0 := hcell 0 (by omega)
    have c1 := hcell 1 (by omega)
    have c2 := hcell 2 (by omega)
    have c3 := hcell 3 (by omega)
    exact ⟨(s, t1, t2, d), by simpa using c0, by simpa using c1, by simpa using c2, by simpa using c3, bounds_u8 ws⟩

set_option maxRecDepth 100000 in
theorem lifted (os : Os) (started : os.Started) (H : Type) (enc : TypeId × Value → H) :
    ReturnsInHanded {} Yba.checked os 3 .any (Rows.lawS5915CWholeSpec.pre6 enc Yba.prog Yba.f3 Rows.lawS5915CWholeRow.domain false) (Rows.lawS5915CWholeSpec.post enc Yba.prog Yba.f3 false true false false) := by
  refine returnsInHanded_of_change (C := Yba.checked) own started (by kernel_rfl) Yba.func3
    (ChangeSpec.witness6 (enc := enc) (C := Yba.checked) false ⟨#[], #[.slice none 0 0], []⟩ 8 (by kernel_rfl) (by kernel_rfl) (by kernel_rfl) (by kernel_rfl)) ?_
  intro W base args ds gs before hval0 hW hcnd _
  have hval : ∀ (j : Nat) t v, Yba.f3.params[j]? = some t → args[j]? = some v → Value.okWide Yba.prog W .any base t v := hval0
  have hW' := hW
  obtain ⟨p, q, hA0, hV, rfl, hfz, hnd⟩ := hW
  have hA : DataW.TrodAll enc Yba.prog W 0 (fun _ => true) true Yba.f3.params.toList args.toList ds p := hA0
  rw [Yba.params3] at hA hval
  obtain ⟨v0, vs0, d0, ds0, p0, q0, hargs, rfl, rfl, h0, r0⟩ := trodAll_cons hA
  obtain ⟨rfl, rfl, rfl⟩ := trodAll_nil r0
  obtain rfl : args = #[v0] := by cases args; simp_all
  obtain ⟨rfl, rfl⟩ := trodVars_none hV
  obtain ⟨ao, n, cap, rfl⟩ := okWide_slice Yba.underlying22 (hval 0 22 v0 rfl rfl)
  have lt0 : ∀ x ∈ p0, x.block < W.heap.size := by obtain ⟨m, hm⟩ := h0; exact DataW.trod_lt m _ _ _ hm
  suffices hs : Calls Yba.prog 3 #[.slice ao n cap] W fun e w' => e = .returned (.bool true) ∧ Below W.heap.size W w' by
    refine hs.mono fun e W' ⟨he, bel⟩ => ?_
    subst he
    exact ⟨_, rfl, _, _, _, [], p0 ++ [], [], hW', trodAll_mk1 (shut_bool Yba.underlying4 _), (trodAll_cons_mk (Below.trod laidOut (by kernel_rfl) (of_decide_eq_true (by kernel_rfl)) h0 bel lt0) trodAll_mk0), rfl, bel.frame _, fun h => by cases h⟩
  clear hW' hA0 hval0
  obtain ⟨fuel, hf⟩ := h0
  rcases open_slice Yba.underlying22 hf with ⟨hcs, _⟩ | ⟨a, len, cap', m, fu, D0, Pl, hcs, _, hl, hm, hmm, _, hx⟩
  · simp [Value.cells] at hcs
    obtain ⟨rfl, rfl, rfl⟩ := hcs
    exact walk_nil W
  · simp [Value.cells] at hcs
    obtain ⟨rfl, rfl, rfl⟩ := hcs
    unfold maxLen at hm
    have hlm : n ≤ m := by rw [hmm]; split <;> omega
    by_cases hn0 : n = 0
    · subst hn0
      exact walk_empty a cap W
    by_cases hn : n ≤ 1048576
    · rw [cells27] at hx
      obtain ⟨Q, hQ⟩ := choose_lt (α := Int × ByteArray × ByteArray × Bool) (n := n) (p := fun j q => W.cell? ((a.add (j * 4)).add 0) = some (.int .u8 q.1) ∧ W.cell? ((a.add (j * 4)).add 1) = some (.string q.2.1) ∧ W.cell? ((a.add (j * 4)).add 2) = some (.string q.2.2.1) ∧ W.cell? ((a.add (j * 4)).add 3) = some (.bool q.2.2.2) ∧ 0 ≤ q.1 ∧ q.1 ≤ 255) (fun j hj => by
        obtain ⟨cs, h1, h2⟩ := hx j (by omega)
        exact elem h1 h2)
      obtain ⟨b, off, spot⟩ := a
      have hc0 := (hQ 0 (by omega)).1
      have hspot : spot = none := by simpa [Addr.add] using World.cell?_spot hc0
      subst hspot
      have hb : b < W.heap.size := by
        rcases Nat.lt_or_ge b W.heap.size with h | h
        · exact h
        · simp [World.cell?, Addr.add, Array.getElem?_eq_none h] at hc0
      refine walk_mid b off n cap (fun j => (Q j).1) (fun j => (Q j).2.1) (fun j => (Q j).2.2.1) (fun j => (Q j).2.2.2) W (by omega) hn hb (fun j hj => ?_) (fun j hj => (hQ j hj).2.2.2.2)
      obtain ⟨x0, x1, x2, x3, _⟩ := hQ j hj
      simp only [add_none, Nat.add_zero] at x0 x1 x2 x3
      exact ⟨x0, x1, x2, x3⟩
    · exact walk_over _ n cap W (by omega) (by omega)

theorem over : Rows.lawS5915CWholeRow.holds Yba.pinned (OpenSpec.ofChange Rows.lawS5915CWholeSpec) :=
  OpenClaim.holds_of_wide 3 Yba.f3 rfl rfl rfl rfl rfl rfl rfl ⟨rfl, rfl, rfl, rfl, rfl⟩ rfl rfl rfl rfl rfl (by kernel_rfl) Yba.func3 (by kernel_rfl)
    (of_decide_eq_true (by kernel_rfl)) (by unfold Func.isWrapper; first | (rw [if_pos (by decide +kernel)]; kernel_rfl) | (rw [if_neg (by decide +kernel)]; exact ⟨rfl, rfl⟩))
    (fun os started H enc _ => lifted os started H enc)
end LawC

/-- THE STATEMENT. -/
theorem lawS5915CWhole_proved : Rows.LawS5915CWholeSaid := LawC.over
end Go.Proofs.Ybulkdrma
