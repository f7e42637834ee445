/-
  LawS5914CWhole: the told card.
-/
import Derived.Test.YbulkdrlmFmtCWalk
import Derived.Test.YbulkdrlmFmtCards
import Derived.ProofKit
import Derived.ChangeSame
import Derived.OpenShut
import Derived.SizedLaws
import Derived.Stop.JoinedAt
import Derived.Stop.Texts
import Derived.Stop.JoinedTold
import Derived.SevenToldRow
namespace Go.Proofs.YbulkdrlmFmt
open Go.ChangeShapes Go.WideShapes Go.ChangeAt Go.RowKit Go.Kit
open Go.Extern.Stop Go.Stop Go.Extern
namespace LawC

theorem own : ownKnob Ybaf.prog.godebug = none := by kernel_rfl
theorem laidOut : laidOutB Ybaf.pinned.checked.prog = true := by kernel_rfl
theorem cells24 : Ybaf.prog.cellsOf 24 = 1 := by kernel_rfl
theorem bytes24 : Ybaf.checked.prog.bytesOf 24 = 2 := by kernel_rfl
theorem stops : Ybaf.pinned.checked.prog.stops = ["fmt.errorf"] := by kernel_rfl
theorem stopKnobs : Ybaf.pinned.checked.prog.stopKnobs = [] := by kernel_rfl
theorem quiet (os : Os) : Stop.quiet Ybaf.pinned.checked.prog os := by
  intro k hk
  rw [stopKnobs] at hk
  cases hk

/-- What the walk is told of a slice of uint16 that came in. -/
theorem view {H : Type} {enc : TypeId × Value → H} {W : World} {ao : Option Addr} {n cap : Nat} {d : DataW H} {p : List MemPlace} (h : DataW.Trod enc Ybaf.prog W 0 (fun _ => true) true 62 (.slice ao n cap) d p) :
    ∃ Z : Nat → Int, Came W ao n Z ∧ (∀ j, 0 ≤ Z j ∧ Z j ≤ 65535) ∧ (n = 0 ∨ ∃ es sp, d = .slice es sp ∧ n ≤ es.length) := by
  obtain ⟨fuel, hf⟩ := h
  rcases open_ints Ybaf.underlying62 Ybaf.underlying24 cells24 hf with ⟨hcs, _⟩ | ⟨a, len, cap', zs, hcs, _, hl, hm, hz, hx, hcell, hwz⟩
  · simp [Value.cells] at hcs
    obtain ⟨rfl, rfl, rfl⟩ := hcs
    exact ⟨fun _ => 0, .inl rfl, fun _ => by show (0 : Int) ≤ 0 ∧ (0 : Int) ≤ 65535; omega, .inl rfl⟩
  · simp [Value.cells] at hcs
    obtain ⟨rfl, rfl, rfl⟩ := hcs
    simp at hz
    simp only [Prod.mk.injEq] at hx
    refine ⟨fun j => zs[j]?.getD 0, ?_, range_u16 hwz, .inr ⟨_, _, hx.1, by simp [lits]; omega⟩⟩
    by_cases h0 : n = 0
    · exact .inl h0
    · right
      obtain ⟨b, off, spot⟩ := a
      have hc0 := hcell 0 (by omega)
      have hspot : spot = none := by simpa [Addr.add] using World.cell?_spot hc0
      subst hspot
      have hb : b < W.heap.size := by
        rcases Nat.lt_or_ge b W.heap.size with h | h
        · exact h
        · simp [World.cell?, Addr.add, Array.getElem?_eq_none h] at hc0
      exact ⟨b, off, rfl, hb, fun j hj => by
        have := hcell j (by omega)
        rw [LawC.add_none] at this
        rw [this]; simp⟩

set_option maxRecDepth 100000 in
set_option maxHeartbeats 1000000 in
theorem lifted (os : Os) (started : os.Started) (H : Type) (enc : TypeId × Value → H) :
    ReturnsInTold none {} Ybaf.checked os 4 .any Input.okWide ((OpenSpec.ofChange Rows.lawS5914CWholeSpec).preRow enc Ybaf.prog Ybaf.f4 [] false []) (fun F => ((OpenSpec.ofChange Rows.lawS5914CWholeSpec).at F).post enc Ybaf.prog Ybaf.f4 false true false false) (aloneAtReturn Ybaf.prog) nothingAlways := by
  refine returnsInTold_of_row (C := Ybaf.checked) (s := OpenSpec.ofChange Rows.lawS5914CWholeSpec) (by kernel_rfl) own started (by kernel_rfl) Ybaf.func4
    (OpenSpec.witness_stopped (enc := enc) (C := Ybaf.checked) false ⟨#[], #[.slice none 0 0, .slice none 0 0, .int .i64 0, .int .i64 0, .int .u8 0], []⟩ 8 (by kernel_rfl) (by kernel_rfl) (by kernel_rfl) (by kernel_rfl)) ?_
  intro F W base args ds gs before _ hF hval0 hW _ _ hsz0 _ _
  have hval : ∀ (j : Nat) t v, Ybaf.f4.params[j]? = some t → args[j]? = some v → Value.okWide Ybaf.prog W .any base t v := hval0
  have hW' := hW
  obtain ⟨p, q, hA0, hV, rfl, _, _⟩ := hW
  have hA : DataW.TrodAll enc Ybaf.prog W 0 (fun _ => true) true Ybaf.f4.params.toList args.toList ds p := hA0
  rw [Ybaf.params4] at hA hval
  obtain ⟨v0, vs0, d0, ds0, p0, q0, hargs, rfl, rfl, h0, r0⟩ := trodAll_cons hA
  obtain ⟨v1, vs1, d1, ds1, p1, q1, rfl, rfl, rfl, h1, r1⟩ := trodAll_cons r0
  obtain ⟨v2, vs2, d2, ds2, p2, q2, rfl, rfl, rfl, h2, r2⟩ := trodAll_cons r1
  obtain ⟨v3, vs3, d3, ds3, p3, q3, rfl, rfl, rfl, h3, r3⟩ := trodAll_cons r2
  obtain ⟨v4, vs4, d4, ds4, p4, q4, rfl, rfl, rfl, h4, r4⟩ := trodAll_cons r3
  obtain ⟨rfl, rfl, rfl⟩ := trodAll_nil r4
  obtain rfl : args = #[v0, v1, v2, v3, v4] := by cases args; simp_all
  obtain ⟨rfl, rfl⟩ := trodVars_none hV
  obtain ⟨sv, rfl, rfl, rfl, w2⟩ := open_int Ybaf.underlying3 (hval 2 3 v2 rfl rfl) h2
  obtain ⟨first, rfl, rfl, rfl, w3⟩ := open_int Ybaf.underlying3 (hval 3 3 v3 rfl rfl) h3
  obtain ⟨b, rfl, rfl, rfl, w4⟩ := open_int Ybaf.underlying5 (hval 4 5 v4 rfl rfl) h4
  obtain ⟨ro, n, c0, rfl⟩ := okWide_slice Ybaf.underlying62 (hval 0 62 v0 rfl rfl)
  obtain ⟨ao, m0, c1, rfl⟩ := okWide_slice Ybaf.underlying62 (hval 1 62 v1 rfl rfl)
  have lt0 : ∀ x ∈ p0, x.block < W.heap.size := by obtain ⟨m, hm⟩ := h0; exact DataW.trod_lt m _ _ _ hm
  have lt1 : ∀ x ∈ p1, x.block < W.heap.size := by obtain ⟨m, hm⟩ := h1; exact DataW.trod_lt m _ _ _ hm
  have fin : ∀ (e : Ending) (W' : World), (e = .returned (.bool true) ∧ Below W.heap.size W W') → ∃ v, e = .returned v ∧ ((OpenSpec.ofChange Rows.lawS5914CWholeSpec).at F.told).post enc Ybaf.prog Ybaf.f4 false true false false W #[.slice ro n c0, .slice ao m0 c1, .int .i64 sv, .int .i64 first, .int .u8 b] v W' := by
    rintro e W' ⟨rfl, bel⟩
    refine ⟨_, rfl, _, _, _, [], p0 ++ (p1 ++ ([] ++ ([] ++ ([] ++ [])))), [], hW', trodAll_mk1 (shut_bool Ybaf.underlying4 _), ?_, rfl, bel.frame _, fun h => by cases h⟩
    exact trodAll_cons_mk (Below.trod laidOut (by kernel_rfl) (of_decide_eq_true (by kernel_rfl)) h0 bel lt0) (trodAll_cons_mk (Below.trod laidOut (by kernel_rfl) (of_decide_eq_true (by kernel_rfl)) h1 bel lt1)
      (trodAll_cons_mk (shut_int Ybaf.underlying3 w2) (trodAll_cons_mk (shut_int Ybaf.underlying3 w3) (trodAll_cons_mk (shut_int Ybaf.underlying5 w4) trodAll_mk0))))
  suffices hs : Calls Ybaf.prog 4 #[.slice ro n c0, .slice ao m0 c1, .int .i64 sv, .int .i64 first, .int .u8 b] W fun e w' => e = .returned (.bool true) ∧ Below W.heap.size W w' from hs.mono fun e W' h => fin e W' h
  clear fin hW'
  obtain ⟨R, hR, bR, dR⟩ := view h0
  obtain ⟨Z, hZ, bZ, dZ⟩ := view h1
  obtain ⟨b0, b1⟩ := bounds_u8 w4
  by_cases hsum : n + m0 ≤ 1048576
  · exact cwalk_mid F.told ro ao n m0 c0 c1 (if m0 < n then n else m0) sv first b R Z (fun j => if m0 = 0 then 0 else Z (j % m0)) W hsum rfl hF b0 b1 hR hZ (fun _ => rfl)
      (fun j => by
        by_cases h : m0 = 0
        · simp [h]
        · simpa [h] using bZ (j % m0)) (fun j _ => bR j)
  · have hr47 := reachBytes_lt
    have l0 : n ≤ 140737488355328 := by
      rcases dR with rfl | ⟨es, sp, rfl, hle⟩
      · omega
      · have := sized_slice hsz0 (j := 0) (t := 62) (e := 24) rfl rfl Ybaf.underlying62
        rw [bytes24] at this
        omega
    have l1 : m0 ≤ 140737488355328 := by
      rcases dZ with rfl | ⟨es, sp, rfl, hle⟩
      · omega
      · have := sized_slice hsz0 (j := 1) (t := 62) (e := 24) rfl rfl Ybaf.underlying62
        rw [bytes24] at this
        omega
    exact cwalk_out ro ao n m0 c0 c1 sv first b W (by omega) l0 l1

theorem holds : Claim7.holds Ybaf.pinned (.plain (OpenSpec.ofChange Rows.lawS5914CWholeSpec)) Rows.lawS5914CWholeCard :=
  Claim7.holds_of_told_any 4 Ybaf.f4 "fmt.errorf" [] [] _ _ _ (by kernel_rfl) rfl rfl rfl laidOut (by kernel_rfl) rfl ⟨rfl, rfl, rfl, rfl, rfl, rfl, rfl⟩ rfl rfl (by kernel_rfl) (by kernel_rfl) Ybaf.func4 (by kernel_rfl)
    (of_decide_eq_true (by kernel_rfl)) (of_decide_eq_true (by kernel_rfl)) stops.symm rfl stopKnobs.symm (by kernel_rfl)
    (by kernel_rfl) (by kernel_rfl) (by kernel_rfl) (by kernel_rfl) (by kernel_rfl) (by kernel_rfl) (by kernel_rfl) (by kernel_rfl) (by kernel_rfl) rfl (by kernel_rfl) rfl rfl
    rfl rfl
    rfl (by kernel_rfl) (by kernel_rfl) (by kernel_rfl) (by decide) (by kernel_rfl)
    (OpenClaim.moreEntering_of (by kernel_rfl) (by kernel_rfl) (by kernel_rfl) (by kernel_rfl) (by kernel_rfl) (by kernel_rfl) (by kernel_rfl) (by kernel_rfl) (by kernel_rfl) (by kernel_rfl))
    ⟨_, WideRow.started_initial, quiet _⟩
    (fun os started _ H enc _ => lifted os started H enc)
end LawC

/-- THE STATEMENT. -/
theorem lawS5914CWhole_told : Rows.LawS5914CWholeToldSaid := LawC.holds
end Go.Proofs.YbulkdrlmFmt
