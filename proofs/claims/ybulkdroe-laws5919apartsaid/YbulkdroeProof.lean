/-
  LawS5919APart: the row.
-/
import Derived.Test.YbulkdroeWalkA
import Derived.Test.YbulkdroeWalkH
import Derived.Test.YbulkdroeWalkB
import Derived.ProofKit
import Derived.OpenShut
import Derived.ShutString
import Derived.ChangeOld
namespace Go.Proofs.Ybulkdroe
open Go.ChangeShapes Go.WideShapes Go.ChangeAt Go.RowKit
namespace LawA
set_option linter.unusedVariables false

theorem own : ownKnob Yba.prog.godebug = none := by kernel_rfl

theorem walk (a0 : Bool) (a1 : Int) (a2 : Int) (a3 : Int) (a4 : Bool) (a5 : Int) (a6 : Int) (a7 : Int) (a8 : Int) (a9 : Int) (a10 : Int) (a11 : Int) (w1 : (Lit.int .u8 a1).wf = true) (w2 : (Lit.int .u64 a2).wf = true) (w3 : (Lit.int .u8 a3).wf = true) (w5 : (Lit.int .u8 a5).wf = true) (w : World) :
    Calls Yba.prog 3 #[.bool a0, .int .u8 a1, .int .u64 a2, .int .u8 a3, .bool a4, .int .u8 a5, .int .u32 a6, .int .u8 a7, .int .u32 a8, .int .u32 a9, .int .u8 a10, .int .u64 a11] w fun e w' => e = .returned (.bool true) ∧ Below w.heap.size w w' := by
  obtain ⟨d0, d1⟩ := bounds_u8 w1
  obtain ⟨m0, m1⟩ := bounds_u64 w2
  obtain ⟨s0, s1⟩ := bounds_u8 w3
  obtain ⟨e0, e1⟩ := bounds_u8 w5
  have three : ((a3 % 3 == 1) = false ∧ (a3 % 3 == 2) = false) ∨ (a3 % 3 == 1) = true ∨ ((a3 % 3 == 1) = false ∧ (a3 % 3 == 2) = true) := by
    rcases (show a3 % 3 = 0 ∨ a3 % 3 = 1 ∨ a3 % 3 = 2 from by omega) with h | h | h <;> simp [h]
  cases a4 <;> cases a0
  · rcases three with ⟨h1, h2⟩ | h1 | ⟨h1, h2⟩
    · exact a_none0 a1 a2 a3 a5 a6 a7 a8 a9 a10 a11 w d0 d1 m0 m1 s0 s1 e0 e1 h1 h2
    · exact a_none1 a1 a2 a3 a5 a6 a7 a8 a9 a10 a11 w d0 d1 m0 m1 s0 s1 e0 e1 h1
    · exact a_none2 a1 a2 a3 a5 a6 a7 a8 a9 a10 a11 w d0 d1 m0 m1 s0 s1 e0 e1 h1 h2
  · rcases three with ⟨h1, h2⟩ | h1 | ⟨h1, h2⟩
    · by_cases hm : a1 < 64
      · exact a_lo0 a1 a2 a3 a5 a6 a7 a8 a9 a10 a11 w d0 d1 m0 m1 s0 s1 e0 e1 h1 h2 hm
      · exact a_hi0 a1 a2 a3 a5 a6 a7 a8 a9 a10 a11 w d0 d1 m0 m1 s0 s1 e0 e1 h1 h2 (by omega)
    · exact a_same a1 a2 a3 a5 a6 a7 a8 a9 a10 a11 w d0 d1 m0 m1 s0 s1 e0 e1 h1
    · by_cases hm : a1 < 64
      · exact a_lo2 a1 a2 a3 a5 a6 a7 a8 a9 a10 a11 w d0 d1 m0 m1 s0 s1 e0 e1 h1 h2 hm
      · exact a_hi2 a1 a2 a3 a5 a6 a7 a8 a9 a10 a11 w d0 d1 m0 m1 s0 s1 e0 e1 h1 h2 (by omega)
  · rcases three with ⟨h1, h2⟩ | h1 | ⟨h1, h2⟩
    · exact b_nil_false a1 a2 a3 a5 a6 a7 a8 a9 a10 a11 w d0 d1 m0 m1 s0 s1 e0 e1 h1 h2
    · exact b_self_false a1 a2 a3 a5 a6 a7 a8 a9 a10 a11 w d0 d1 m0 m1 s0 s1 e0 e1 h1
    · exact b_other_false a1 a2 a3 a5 a6 a7 a8 a9 a10 a11 w d0 d1 m0 m1 s0 s1 e0 e1 h1 h2
  · rcases three with ⟨h1, h2⟩ | h1 | ⟨h1, h2⟩
    · exact b_nil_true a1 a2 a3 a5 a6 a7 a8 a9 a10 a11 w d0 d1 m0 m1 s0 s1 e0 e1 h1 h2
    · exact b_self_true a1 a2 a3 a5 a6 a7 a8 a9 a10 a11 w d0 d1 m0 m1 s0 s1 e0 e1 h1
    · exact b_other_true a1 a2 a3 a5 a6 a7 a8 a9 a10 a11 w d0 d1 m0 m1 s0 s1 e0 e1 h1 h2

/-! ### THE ROW's STEP: WRITTEN OUT: LEAVE IT -/
set_option maxRecDepth 100000 in
theorem lifted (os : Os) (started : os.Started) (H : Type) (enc : TypeId × Value → H) :
    ReturnsInHanded {} Yba.checked os 3 .any (Rows.lawS5919APartSpec.pre6 enc Yba.prog Yba.f3 Rows.lawS5919APartRow.domain false) (Rows.lawS5919APartSpec.post enc Yba.prog Yba.f3 false true false false) := by
  refine returnsInHanded_of_change (C := Yba.checked) own started (by kernel_rfl) Yba.func3
    (ChangeSpec.witness6 (enc := enc) (C := Yba.checked) false ⟨#[], #[.bool false, .int .u8 0, .int .u64 0, .int .u8 0, .bool false, .int .u8 0, .int .u32 0, .int .u8 0, .int .u32 0, .int .u32 0, .int .u8 0, .int .u64 0], []⟩ 8 (by kernel_rfl) (by kernel_rfl) (by kernel_rfl) (by kernel_rfl)) ?_
  intro W base args ds gs before hval0 hW hcnd _
  have hval : ∀ (j : Nat) t v, Yba.f3.params[j]? = some t → args[j]? = some v → Value.okWide Yba.prog W .any base t v := hval0
  have hW' := hW
  obtain ⟨p, q, hA0, hV, rfl, hfz, hnd⟩ := hW
  have hA : DataW.TrodAll enc Yba.prog W 0 (fun _ => true) true Yba.f3.params.toList args.toList ds p := hA0
  rw [Yba.params3] at hA hval
  obtain ⟨v0, vs0, d0, ds0, p0, q0, hargs, rfl, rfl, h0, r0⟩ := trodAll_cons hA
  obtain ⟨v1, vs1, d1, ds1, p1, q1, rfl, rfl, rfl, h1, r1⟩ := trodAll_cons r0
  obtain ⟨v2, vs2, d2, ds2, p2, q2, rfl, rfl, rfl, h2, r2⟩ := trodAll_cons r1
  obtain ⟨v3, vs3, d3, ds3, p3, q3, rfl, rfl, rfl, h3, r3⟩ := trodAll_cons r2
  obtain ⟨v4, vs4, d4, ds4, p4, q4, rfl, rfl, rfl, h4, r4⟩ := trodAll_cons r3
  obtain ⟨v5, vs5, d5, ds5, p5, q5, rfl, rfl, rfl, h5, r5⟩ := trodAll_cons r4
  obtain ⟨v6, vs6, d6, ds6, p6, q6, rfl, rfl, rfl, h6, r6⟩ := trodAll_cons r5
  obtain ⟨v7, vs7, d7, ds7, p7, q7, rfl, rfl, rfl, h7, r7⟩ := trodAll_cons r6
  obtain ⟨v8, vs8, d8, ds8, p8, q8, rfl, rfl, rfl, h8, r8⟩ := trodAll_cons r7
  obtain ⟨v9, vs9, d9, ds9, p9, q9, rfl, rfl, rfl, h9, r9⟩ := trodAll_cons r8
  obtain ⟨v10, vs10, d10, ds10, p10, q10, rfl, rfl, rfl, h10, r10⟩ := trodAll_cons r9
  obtain ⟨v11, vs11, d11, ds11, p11, q11, rfl, rfl, rfl, h11, r11⟩ := trodAll_cons r10
  obtain ⟨rfl, rfl, rfl⟩ := trodAll_nil r11
  obtain rfl : args = #[v0, v1, v2, v3, v4, v5, v6, v7, v8, v9, v10, v11] := by cases args; simp_all
  obtain ⟨rfl, rfl⟩ := trodVars_none hV
  obtain ⟨a0, rfl, rfl, rfl⟩ := open_bool Yba.underlying4 (hval 0 4 v0 rfl rfl) h0
  obtain ⟨a1, rfl, rfl, rfl, w1⟩ := open_int Yba.underlying5 (hval 1 5 v1 rfl rfl) h1
  obtain ⟨a2, rfl, rfl, rfl, w2⟩ := open_int Yba.underlying22 (hval 2 22 v2 rfl rfl) h2
  obtain ⟨a3, rfl, rfl, rfl, w3⟩ := open_int Yba.underlying5 (hval 3 5 v3 rfl rfl) h3
  obtain ⟨a4, rfl, rfl, rfl⟩ := open_bool Yba.underlying4 (hval 4 4 v4 rfl rfl) h4
  obtain ⟨a5, rfl, rfl, rfl, w5⟩ := open_int Yba.underlying5 (hval 5 5 v5 rfl rfl) h5
  obtain ⟨a6, rfl, rfl, rfl, w6⟩ := open_int Yba.underlying23 (hval 6 23 v6 rfl rfl) h6
  obtain ⟨a7, rfl, rfl, rfl, w7⟩ := open_int Yba.underlying5 (hval 7 5 v7 rfl rfl) h7
  obtain ⟨a8, rfl, rfl, rfl, w8⟩ := open_int Yba.underlying23 (hval 8 23 v8 rfl rfl) h8
  obtain ⟨a9, rfl, rfl, rfl, w9⟩ := open_int Yba.underlying23 (hval 9 23 v9 rfl rfl) h9
  obtain ⟨a10, rfl, rfl, rfl, w10⟩ := open_int Yba.underlying5 (hval 10 5 v10 rfl rfl) h10
  obtain ⟨a11, rfl, rfl, rfl, w11⟩ := open_int Yba.underlying22 (hval 11 22 v11 rfl rfl) h11
  clear hA0 hval0
  simp only [List.append_nil] at hW'
  refine (walk a0 a1 a2 a3 a4 a5 a6 a7 a8 a9 a10 a11 w1 w2 w3 w5 W).mono fun e W' ⟨he, bel⟩ => ?_
  subst he
  exact ⟨_, rfl, _, _, _, [], [], [], hW', trodAll_mk1 (shut_bool Yba.underlying4 _), (trodAll_cons_mk (shut_bool Yba.underlying4 _) (trodAll_cons_mk (shut_int Yba.underlying5 w1) (trodAll_cons_mk (shut_int Yba.underlying22 w2) (trodAll_cons_mk (shut_int Yba.underlying5 w3) (trodAll_cons_mk (shut_bool Yba.underlying4 _) (trodAll_cons_mk (shut_int Yba.underlying5 w5) (trodAll_cons_mk (shut_int Yba.underlying23 w6) (trodAll_cons_mk (shut_int Yba.underlying5 w7) (trodAll_cons_mk (shut_int Yba.underlying23 w8) (trodAll_cons_mk (shut_int Yba.underlying23 w9) (trodAll_cons_mk (shut_int Yba.underlying5 w10) (trodAll_cons_mk (shut_int Yba.underlying22 w11) trodAll_mk0)))))))))))), rfl, bel.frame _, fun h => by cases h⟩

theorem over : Rows.lawS5919APartRow.holds Yba.pinned (OpenSpec.ofChange Rows.lawS5919APartSpec) :=
  OpenClaim.holds_of_wide 3 Yba.f3 rfl rfl rfl rfl rfl rfl rfl ⟨rfl, rfl, rfl, rfl, rfl⟩ rfl rfl rfl rfl rfl (by kernel_rfl) Yba.func3 (by kernel_rfl)
    (of_decide_eq_true (by kernel_rfl)) (by unfold Func.isWrapper; first | (rw [if_pos (by decide +kernel)]; kernel_rfl) | (rw [if_neg (by decide +kernel)]; exact ⟨rfl, rfl⟩))
    (fun os started H enc _ => lifted os started H enc)

end LawA

/-- THE STATEMENT. -/
theorem lawS5919APart_proved : Rows.LawS5919APartSaid := LawA.over
end Go.Proofs.Ybulkdroe
