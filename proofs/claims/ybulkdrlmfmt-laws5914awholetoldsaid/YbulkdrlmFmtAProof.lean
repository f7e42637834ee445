/-
  LawS5914AWhole: the told card.
-/
import Derived.Test.YbulkdrlmFmtAWalk
import Derived.Test.YbulkdrlmFmtCards
import Derived.ProofKit
import Derived.ChangeSame
import Derived.OpenShut
import Derived.Laws.IdiomArrays
import Derived.Deep.SlicePairs
import Derived.Stop.JoinedAt
import Derived.Stop.Texts
import Derived.Stop.JoinedTold
import Derived.SevenToldRow
namespace Go.Proofs.YbulkdrlmFmt
open Go.ChangeShapes Go.WideShapes Go.ChangeAt Go.RowKit Go.Kit Go.Deep
open Go.Extern.Stop Go.Stop Go.Extern
namespace LawA

theorem own : ownKnob Ybaf.prog.godebug = none := by kernel_rfl
theorem laidOut : laidOutB Ybaf.pinned.checked.prog = true := by kernel_rfl
theorem cells33 : Ybaf.prog.cellsOf 33 = 2 := by kernel_rfl
theorem cells5 : Ybaf.prog.cellsOf 5 = 1 := by kernel_rfl
theorem cells23 : Ybaf.prog.cellsOf 23 = 4 := by kernel_rfl
theorem cells4 : Ybaf.prog.cellsOf 4 = 1 := by kernel_rfl
theorem cells25 : Ybaf.prog.cellsOf 25 = 4 := by kernel_rfl
theorem cells24 : Ybaf.prog.cellsOf 24 = 1 := by kernel_rfl
theorem stops : Ybaf.pinned.checked.prog.stops = ["fmt.errorf"] := by kernel_rfl
theorem stopKnobs : Ybaf.pinned.checked.prog.stopKnobs = [] := by kernel_rfl
theorem quiet (os : Os) : Stop.quiet Ybaf.pinned.checked.prog os := by
  intro k hk
  rw [stopKnobs] at hk
  cases hk
theorem list4 {α : Type} (l : List α) (h : (⟨l⟩ : Array α).size = 4) : ∃ a b c d, l = [a, b, c, d] := by
  match l, h with
  | [a, b, c, d], _ => exact ⟨a, b, c, d, rfl⟩

theorem add_none (b off k : Nat) : (⟨b, off, none⟩ : Addr).add k = ⟨b, off + k, none⟩ := by
  by_cases h : k = 0
  · subst h; simp [Addr.add]
  · simp [Addr.add, h]

set_option maxRecDepth 100000 in
set_option maxHeartbeats 1000000 in
theorem lifted (os : Os) (started : os.Started) (H : Type) (enc : TypeId × Value → H) :
    ReturnsInTold none {} Ybaf.checked os 3 .any Input.okWide ((OpenSpec.ofChange Rows.lawS5914AWholeSpec).preRow enc Ybaf.prog Ybaf.f3 [] false []) (fun F => ((OpenSpec.ofChange Rows.lawS5914AWholeSpec).at F).post enc Ybaf.prog Ybaf.f3 false true false false) (aloneAtReturn Ybaf.prog) nothingAlways := by
  refine returnsInTold_of_row (C := Ybaf.checked) (s := OpenSpec.ofChange Rows.lawS5914AWholeSpec) (by kernel_rfl) own started (by kernel_rfl) Ybaf.func3
    (OpenSpec.witness_stopped (enc := enc) (C := Ybaf.checked) false ⟨#[], #[.slice none 0 0, .int .i64 0, .agg #[.bool false, .bool false, .bool false, .bool false], .agg #[.int .u16 0, .int .u16 0, .int .u16 0, .int .u16 0]], []⟩ 8 (by kernel_rfl) (by kernel_rfl) (by kernel_rfl) (by kernel_rfl)) ?_
  intro F W base args ds gs before _ hF hval0 hW _ _ _ _ _
  have hval : ∀ (j : Nat) t v, Ybaf.f3.params[j]? = some t → args[j]? = some v → Value.okWide Ybaf.prog W .any base t v := hval0
  have hW' := hW
  obtain ⟨p, q, hA0, hV, rfl, _, _⟩ := hW
  have hA : DataW.TrodAll enc Ybaf.prog W 0 (fun _ => true) true Ybaf.f3.params.toList args.toList ds p := hA0
  rw [Ybaf.params3] at hA hval
  obtain ⟨v0, v1, v2, v3, d0, d1, d2, d3, q0, q1, q2, q3, rfl, rfl, rfl, h0, h1, h2, h3⟩ := trodAll_four hA
  obtain ⟨rfl, rfl⟩ := trodVars_none hV
  have k0 := h0
  have k1 := h1
  have k2 := h2
  have k3 := h3
  have lt0 : ∀ x ∈ q0, x.block < W.heap.size := by obtain ⟨m, hm⟩ := k0; exact DataW.trod_lt m _ _ _ hm
  have lt1 : ∀ x ∈ q1, x.block < W.heap.size := by obtain ⟨m, hm⟩ := k1; exact DataW.trod_lt m _ _ _ hm
  have lt2 : ∀ x ∈ q2, x.block < W.heap.size := by obtain ⟨m, hm⟩ := k2; exact DataW.trod_lt m _ _ _ hm
  have lt3 : ∀ x ∈ q3, x.block < W.heap.size := by obtain ⟨m, hm⟩ := k3; exact DataW.trod_lt m _ _ _ hm
  -- whatever the call does, if it returns true and nothing old has turned
  have fin : ∀ (e : Ending) (W' : World), (e = .returned (.bool true) ∧ Below W.heap.size W W') → ∃ v, e = .returned v ∧ ((OpenSpec.ofChange Rows.lawS5914AWholeSpec).at F.told).post enc Ybaf.prog Ybaf.f3 false true false false W #[v0, v1, v2, v3] v W' := by
    rintro e W' ⟨rfl, bel⟩
    refine ⟨_, rfl, _, _, _, [], q0 ++ (q1 ++ (q2 ++ (q3 ++ []))), [], hW', trodAll_mk1 (shut_bool Ybaf.underlying4 _), ?_, rfl, bel.frame _, fun h => by cases h⟩
    exact trodAll_cons_mk (Below.trod laidOut (by kernel_rfl) (of_decide_eq_true (by kernel_rfl)) k0 bel lt0) (trodAll_cons_mk (Below.trod laidOut (by kernel_rfl) (of_decide_eq_true (by kernel_rfl)) k1 bel lt1)
      (trodAll_cons_mk (Below.trod laidOut (by kernel_rfl) (of_decide_eq_true (by kernel_rfl)) k2 bel lt2) (trodAll_cons_mk (Below.trod laidOut (by kernel_rfl) (of_decide_eq_true (by kernel_rfl)) k3 bel lt3) trodAll_mk0)))
  suffices hs : Calls Ybaf.prog 3 #[v0, v1, v2, v3] W fun e w' => e = .returned (.bool true) ∧ Below W.heap.size W w' from hs.mono fun e W' h => fin e W' h
  clear fin hW'
  obtain ⟨i, rfl, rfl, rfl, wi⟩ := open_int Ybaf.underlying3 (hval 1 3 v1 rfl rfl) h1
  obtain ⟨cs2, rfl, hsz2, _⟩ : ∃ cs, v2 = .agg cs ∧ cs.size = Ybaf.prog.cellsOf 23 ∧ Row.okWide Ybaf.prog W .any base 23 cs := by
    have := hval 2 23 v2 rfl rfl
    simpa [Value.okWide, Ybaf.underlying23] using this
  rw [cells23] at hsz2
  obtain ⟨l2⟩ := cs2
  obtain ⟨a0, a1, a2, a3, rfl⟩ := list4 l2 hsz2
  obtain ⟨cs3, rfl, hsz3, _⟩ : ∃ cs, v3 = .agg cs ∧ cs.size = Ybaf.prog.cellsOf 25 ∧ Row.okWide Ybaf.prog W .any base 25 cs := by
    have := hval 3 25 v3 rfl rfl
    simpa [Value.okWide, Ybaf.underlying25] using this
  rw [cells25] at hsz3
  obtain ⟨l3⟩ := cs3
  obtain ⟨b0, b1, b2, b3, rfl⟩ := list4 l3 hsz3
  obtain ⟨fuel2, hf2⟩ := h2
  obtain ⟨y0, y1, y2, y3, m2, hx2, hy0, hy1, hy2, hy3⟩ := trod_array4 Ybaf.underlying23 cells4 hf2
  obtain ⟨p0, e0, _⟩ := DataW.trod_bool Ybaf.underlying4 hy0
  obtain ⟨p1, e1, _⟩ := DataW.trod_bool Ybaf.underlying4 hy1
  obtain ⟨p2, e2, _⟩ := DataW.trod_bool Ybaf.underlying4 hy2
  obtain ⟨p3, e3, _⟩ := DataW.trod_bool Ybaf.underlying4 hy3
  simp at e0 e1 e2 e3
  subst e0 e1 e2 e3
  obtain ⟨fuel3, hf3⟩ := h3
  obtain ⟨z0, z1, z2, z3, m3, hx3, hz0, hz1, hz2, hz3⟩ := trod_array4 Ybaf.underlying25 cells24 hf3
  obtain ⟨f0, g0, _, _⟩ := DataW.trod_int Ybaf.underlying24 hz0
  obtain ⟨f1, g1, _, _⟩ := DataW.trod_int Ybaf.underlying24 hz1
  obtain ⟨f2, g2, _, _⟩ := DataW.trod_int Ybaf.underlying24 hz2
  obtain ⟨f3, g3, _, _⟩ := DataW.trod_int Ybaf.underlying24 hz3
  simp at g0 g1 g2 g3
  subst g0 g1 g2 g3
  obtain ⟨ao, n, cap, rfl⟩ := okWide_slice Ybaf.underlying22 (hval 0 22 v0 rfl rfl)
  obtain ⟨fuel, hf⟩ := h0
  rcases open_slice_pairs Ybaf.underlying22 Ybaf.underlying33 cells33 rfl rfl cells5 cells5 hf with ⟨hcs, _⟩ | ⟨a, len, cap', m, fu, V0, V1, D0, D1, P0, P1, hcs, _, hl, hm, hmm, _, hc⟩
  · simp [Value.cells] at hcs
    obtain ⟨rfl, rfl, rfl⟩ := hcs
    exact walk_out _ _ _ i p0 p1 p2 p3 f0 f1 f2 f3 W (.inl rfl) (by omega)
  · simp [Value.cells] at hcs
    obtain ⟨rfl, rfl, rfl⟩ := hcs
    unfold maxLen at hm
    by_cases hn : 1 ≤ n ∧ n ≤ 1048576
    · obtain ⟨hn1, hn2⟩ := hn
      have hlm : n ≤ m := by rw [hmm]; split <;> omega
      obtain ⟨X, hX⟩ := choose_lt (α := Int × Int) (n := n) (p := fun j x => W.cell? (a.add (j * 2)) = some (.int .u8 x.1) ∧ W.cell? (a.add (j * 2 + 1)) = some (.int .u8 x.2) ∧ 0 ≤ x.2 ∧ x.2 ≤ 255) (fun j hj => by
        obtain ⟨c0, c1, t0, t1⟩ := hc j (by omega)
        obtain ⟨x0, r0, _, w0⟩ := DataW.trod_int Ybaf.underlying5 t0
        obtain ⟨x1, r1, _, w1⟩ := DataW.trod_int Ybaf.underlying5 t1
        simp at r0 r1
        rw [r0] at c0
        rw [r1] at c1
        exact ⟨(x0, x1), c0, c1, bounds_u8 w1⟩)
      obtain ⟨b, off, spot⟩ := a
      have hc0 := (hX 0 (by omega)).1
      have hspot : spot = none := by simpa [Addr.add] using World.cell?_spot hc0
      subst hspot
      have hb : b < W.heap.size := by
        rcases Nat.lt_or_ge b W.heap.size with h | h
        · exact h
        · simp [World.cell?, Addr.add, Array.getElem?_eq_none h] at hc0
      exact walk_mid F.told b off n cap i (fun j => (X j).1) (fun j => (X j).2) p0 p1 p2 p3 f0 f1 f2 f3 W hn1 hn2 hb
        (fun j hj => by rw [← add_none]; exact (hX j hj).1) (fun j hj => by rw [Nat.add_assoc, ← add_none]; exact (hX j hj).2.1) (fun j hj => (hX j hj).2.2) hF
    · exact walk_out _ _ _ i p0 p1 p2 p3 f0 f1 f2 f3 W (by omega) (by omega)

theorem holds : Claim7.holds Ybaf.pinned (.plain (OpenSpec.ofChange Rows.lawS5914AWholeSpec)) Rows.lawS5914AWholeCard :=
  Claim7.holds_of_told_any 3 Ybaf.f3 "fmt.errorf" [] [] _ _ _ (by kernel_rfl) rfl rfl rfl laidOut (by kernel_rfl) rfl ⟨rfl, rfl, rfl, rfl, rfl, rfl, rfl⟩ rfl rfl (by kernel_rfl) (by kernel_rfl) Ybaf.func3 (by kernel_rfl)
    (of_decide_eq_true (by kernel_rfl)) (of_decide_eq_true (by kernel_rfl)) stops.symm rfl stopKnobs.symm (by kernel_rfl)
    (by kernel_rfl) (by kernel_rfl) (by kernel_rfl) (by kernel_rfl) (by kernel_rfl) (by kernel_rfl) (by kernel_rfl) (by kernel_rfl) (by kernel_rfl) rfl (by kernel_rfl) rfl rfl
    rfl rfl
    rfl (by kernel_rfl) (by kernel_rfl) (by kernel_rfl) (by decide) (by kernel_rfl)
    (OpenClaim.moreEntering_of (by kernel_rfl) (by kernel_rfl) (by kernel_rfl) (by kernel_rfl) (by kernel_rfl) (by kernel_rfl) (by kernel_rfl) (by kernel_rfl) (by kernel_rfl) (by kernel_rfl))
    ⟨_, WideRow.started_initial, quiet _⟩
    (fun os started _ H enc _ => lifted os started H enc)
end LawA

/-- THE STATEMENT. -/
theorem lawS5914AWhole_told : Rows.LawS5914AWholeToldSaid := LawA.holds
end Go.Proofs.YbulkdrlmFmt
