/-
  LawS5920AWhole: the row.
-/
import Derived.Test.YbulkdrosDoorWalk
import Derived.ProofKit
import Derived.LaidMore
import Derived.OpenShut
import Derived.ShutString
import Derived.ChangeOld
import Derived.Stop.Joined
import Derived.Stop.LaidErr
namespace Go.Proofs.YbulkdrosDoor
open Go.ChangeShapes Go.WideShapes Go.ChangeAt Go.RowKit
open Go.ChangeMaps (open_string shut_string)
namespace LawA

theorem own : ownKnob Ybad.prog.godebug = none := by kernel_rfl
theorem tSyn : (Ybad.prog.globals[0]?).map (·.type) = some 42 := by kernel_rfl
theorem tRan : (Ybad.prog.globals[1]?).map (·.type) = some 42 := by kernel_rfl

/-- A listed variable of an interface type: its one cell holds an interface value that is not nil. -/
theorem sentinel_cell {n nm : String} {d : DataW Unit} {r : List (String × DataW Unit)} {W : World} {g : Nat} (h : laidMet Ybad.prog ((n, .iface nm d) :: r) W) (hg : Ybad.prog.globalNamed n = some g) (ht : (Ybad.prog.globals[g]?).map (·.type) = some 42) :
    ∃ u v, W.var? Ybad.prog n = some #[.iface u v] := by
  obtain ⟨ps, ⟨g0, t0, cs0, f0, p0, q0, hg0, ht0, hv0, hd0, _, _⟩, _, _⟩ := h
  obtain rfl := Option.some.inj (hg.symm.trans hg0)
  obtain rfl := Option.some.inj (ht.symm.trans ht0)
  obtain ⟨_, u, v, hcs, _, _⟩ := iface_of_trod Ybad.underlying42 hd0
  rw [Array.eq_one_of_toList hcs] at hv0
  exact ⟨u, v, hv0⟩

theorem of_laid {W : World} (h : laidMetH Ybad.prog Rows.lawS5920AWholeRow.laid W) : (∃ u v, W.var? Ybad.prog "strconv.ErrSyntax" = some #[.iface u v]) ∧ ∃ u v, W.var? Ybad.prog "strconv.ErrRange" = some #[.iface u v] := by
  rw [MakeChecks.laidMetH_plain _ _ _ (by kernel_rfl)] at h
  have h3 := h.tail.tail.tail
  exact ⟨sentinel_cell h3.tail Ybad.gSyn tSyn, sentinel_cell h3 Ybad.gRan tRan⟩

/-- The door's own heap meets the condition. -/
theorem door_met (os : Os) (args : Array Value) : laidMetH Ybad.prog Rows.lawS5920AWholeRow.laid ((World.doorLaid Ybad.prog 400 os).forCall (fun _ _ => 0) ⟨#[], args, []⟩).memory :=
  laidMetH_of_parts3 (fuel := 8) (laidMet_of_run' 8 (by kernel_rfl) (by kernel_rfl)) (by kernel_rfl) (by kernel_rfl)

set_option maxRecDepth 100000 in
theorem lifted (os : Os) (started : os.Started) (H : Type) (enc : TypeId × Value → H) :
    ReturnsInHanded {} Ybad.checked os 3 .any (fun w args => (Rows.lawS5920AWholeSpec.pre enc Ybad.prog Ybad.f3 [] false w args ∧ laidMetH Ybad.prog Rows.lawS5920AWholeRow.laid w) ∧ sizedMet enc Ybad.prog Ybad.f3 (OpenSpec.ofChange Rows.lawS5920AWholeSpec) false w args)
      (Rows.lawS5920AWholeSpec.post enc Ybad.prog Ybad.f3 false true false false) := by
  refine returnsInHanded_of_change_and (C := Ybad.checked) (X := fun w _ => laidMetH Ybad.prog Rows.lawS5920AWholeRow.laid w) (fun _ _ _ hh h => h.of_heap hh) own started (by kernel_rfl) Ybad.func3
    (ChangeSpec.witness_shaped (enc := enc) (C := Ybad.checked) (os := os) (X := fun w _ => laidMetH Ybad.prog Rows.lawS5920AWholeRow.laid w) false (World.doorLaid Ybad.prog 400 os) #[.string ⟨#[]⟩, .string ⟨#[]⟩, .int .i64 0, .bool false, .int .i64 0] 8 rfl (World.shaped_of_RefB (by kernel_rfl) (by kernel_rfl)) (by kernel_rfl) (by kernel_rfl) (by kernel_rfl) (door_met os _)) ?_
  intro W base args ds gs before hval0 hW _ _ hL _
  have hval : ∀ (j : Nat) t v, Ybad.f3.params[j]? = some t → args[j]? = some v → Value.okWide Ybad.prog W .any base t v := hval0
  have hW' := hW
  obtain ⟨p, q, hA0, hV, rfl, hfz, hnd⟩ := hW
  have hA : DataW.TrodAll enc Ybad.prog W 0 (fun _ => true) true Ybad.f3.params.toList args.toList ds p := hA0
  rw [Ybad.params3] at hA hval
  obtain ⟨v0, vs0, d0, ds0, p0, q0, hargs, rfl, rfl, h0, r0⟩ := trodAll_cons hA
  obtain ⟨v1, vs1, d1, ds1, p1, q1, rfl, rfl, rfl, h1, r1⟩ := trodAll_cons r0
  obtain ⟨v2, vs2, d2, ds2, p2, q2, rfl, rfl, rfl, h2, r2⟩ := trodAll_cons r1
  obtain ⟨v3, vs3, d3, ds3, p3, q3, rfl, rfl, rfl, h3, r3⟩ := trodAll_cons r2
  obtain ⟨v4, vs4, d4, ds4, p4, q4, rfl, rfl, rfl, h4, r4⟩ := trodAll_cons r3
  obtain ⟨rfl, rfl, rfl⟩ := trodAll_nil r4
  obtain rfl : args = #[v0, v1, v2, v3, v4] := by cases args; simp_all
  obtain ⟨rfl, rfl⟩ := trodVars_none hV
  obtain ⟨a0, rfl, rfl, rfl, w0⟩ := open_string Ybad.underlying9 (hval 0 9 v0 rfl rfl) h0
  obtain ⟨a1, rfl, rfl, rfl, w1⟩ := open_string Ybad.underlying9 (hval 1 9 v1 rfl rfl) h1
  obtain ⟨a2, rfl, rfl, rfl, w2⟩ := open_int Ybad.underlying3 (hval 2 3 v2 rfl rfl) h2
  obtain ⟨a3, rfl, rfl, rfl⟩ := open_bool Ybad.underlying4 (hval 3 4 v3 rfl rfl) h3
  obtain ⟨a4, rfl, rfl, rfl, w4⟩ := open_int Ybad.underlying2 (hval 4 2 v4 rfl rfl) h4
  obtain ⟨⟨t0, x0, c0⟩, t1, x1, c1⟩ := of_laid hL
  clear hA0 hval0
  simp only [List.append_nil] at hW'
  have z0 : a0.size ≤ 9223372036854775807 := w0
  have z1 : a1.size ≤ 9223372036854775807 := w1
  obtain ⟨n0, n1⟩ := bounds_i64 w4
  refine (law_any a0 a1 a2 a4 a3 W z1 z0 n0 n1 t0 t1 x0 x1 c0 c1).mono fun e W' ⟨he, bel⟩ => ?_
  subst he
  exact ⟨_, rfl, _, _, _, [], [], [], hW', trodAll_mk1 (shut_bool Ybad.underlying4 _), (trodAll_cons_mk (shut_string Ybad.underlying9 w0) (trodAll_cons_mk (shut_string Ybad.underlying9 w1) (trodAll_cons_mk (shut_int Ybad.underlying3 w2) (trodAll_cons_mk (shut_bool Ybad.underlying4 _) (trodAll_cons_mk (shut_int Ybad.underlying2 w4) trodAll_mk0))))), rfl, bel.frame _, fun h => by cases h⟩

theorem row_holds : Rows.LawS5920AWholeSaid :=
  OpenClaim.holds_of_wide 3 Ybad.f3 rfl rfl rfl rfl rfl rfl rfl ⟨rfl, rfl, rfl, rfl, rfl⟩ rfl rfl rfl rfl rfl (by kernel_rfl) Ybad.func3 (by kernel_rfl)
    (of_decide_eq_true (by kernel_rfl)) (by unfold Func.isWrapper; first | (rw [if_pos (by decide +kernel)]; kernel_rfl) | (rw [if_neg (by decide +kernel)]; exact ⟨rfl, rfl⟩))
    (fun os started H enc _ => lifted os started H enc)

end LawA
end Go.Proofs.YbulkdrosDoor
