/-
  zzs5920amodel walked: it answers as 'mval' does.
-/
import Derived.Test.YbulkdrosDoorPlain
import Derived.Test.YbulkdrosDoorRows
import Derived.WalkKit
import Derived.WalkSpells
import Derived.WalkLawsBesides
import Derived.Handy
import Derived.Deep.LoopGhost
import Derived.Deep.DeepCutAuto
namespace Go.Proofs.YbulkdrosDoor
open Go.RowKit

/-- The model's two results. -/
def mres : Option Int → Value
  | some v => .tuple #[.int .u64 (v % 18446744073709551616), .bool true]
  | none => .tuple #[.int .u64 0, .bool false]

theorem model_nil (w : World) :
    Calls Ybad.prog 7 #[.string ⟨#[]⟩] w fun e w' => e = .returned (.tuple #[.int .u64 0, .bool false]) ∧ w' = w := by
  go_enter Ybad.func7, Ybad.ntmps7
  go_wp2
  go_ret2
  exact ⟨rfl, rfl⟩

theorem sg_no {c : UInt8} (h1 : ¬ (c.toNat : Int) = 43) (h2 : ¬ (c.toNat : Int) = 45) : sg c = 0 ∧ decide (c.toNat = 45) = false := by
  unfold sg
  rw [if_neg (by omega)]
  exact ⟨rfl, by rw [decide_eq_false_iff_not]; omega⟩
theorem sg_plus {c : UInt8} (h1 : (c.toNat : Int) = 43) : sg c = 1 ∧ decide (c.toNat = 45) = false := by
  unfold sg
  rw [if_pos (by omega)]
  exact ⟨rfl, by rw [decide_eq_false_iff_not]; omega⟩
theorem sg_minus {c : UInt8} (h1 : (c.toNat : Int) = 45) : sg c = 1 ∧ decide (c.toNat = 45) = true := by
  unfold sg
  rw [if_pos (by omega)]
  exact ⟨rfl, by rw [decide_eq_true_eq]; omega⟩

theorem sgB (c : UInt8) : decide (sg c = 1) = (((c.toNat : Int) == 43) || ((c.toNat : Int) == 45)) := by
  by_cases h43 : (c.toNat : Int) = 43
  · rw [(sg_plus h43).1]; simp [h43]
  · by_cases h45 : (c.toNat : Int) = 45
    · rw [(sg_minus h45).1]; simp [h45]
    · rw [(sg_no h43 h45).1, beq_eq_false_iff_ne.2 h43, beq_eq_false_iff_ne.2 h45]; rfl

theorem mg_bad (o : Bool) (m : Nat) (c : UInt8) (r : List UInt8) (h : ¬ (48 ≤ c.toNat ∧ c.toNat ≤ 57)) : mg o m (c :: r) = none := by
  unfold mg; rw [if_neg h]
theorem mg_over (m : Nat) (c : UInt8) (r : List UInt8) (h0 : 48 ≤ c.toNat) (h1 : c.toNat ≤ 57) : mg true m (c :: r) = mg true m r := by
  rw [mg.eq_2, if_pos ⟨h0, h1⟩]; rfl
theorem mg_brim (m d : Nat) (c : UInt8) (r : List UInt8) (h : c.toNat = 48 + d) (h1 : d ≤ 9) (hb : (18446744073709551615 - d) / 10 < m) : mg false m (c :: r) = mg true m r := by
  rw [mg.eq_2, h, if_pos (by omega), if_neg (by decide), if_pos (by simpa using hb)]
theorem mg_step (m d : Nat) (c : UInt8) (r : List UInt8) (h : c.toNat = 48 + d) (h1 : d ≤ 9) (hb : ¬ (18446744073709551615 - d) / 10 < m) : mg false m (c :: r) = mg false (m * 10 + d) r := by
  rw [mg.eq_2, h, if_pos (by omega), if_neg (by decide), if_neg (by simpa using hb)]
  simp
theorem list_end (s : ByteArray) : s.data.toList.drop s.size = [] := by
  rw [List.drop_eq_nil_iff]; exact Nat.le_refl _

theorem wrap_u64 (x : Int) : IntKind.u64.wrap x = x % 18446744073709551616 := by simp [IntKind.wrap, IntKind.signed, IntKind.bits]

theorem cut_rel {c : UInt8} {k : Nat} {b : Bool} {w : World} (h : sg c = k ∧ decide (c.toNat = 45) = b) : Value.int .i64 (k : Int) = Value.int .i64 (sg c : Nat) ∧ Value.bool b = Value.bool (decide (c.toNat = 45)) ∧ w = w := by
  rw [h.1, h.2]; exact ⟨rfl, rfl, rfl⟩

theorem list_at (s : ByteArray) (i : Nat) (h : i < s.size) : s.data.toList.drop i = s[i] :: s.data.toList.drop (i + 1) := by
  rw [List.drop_eq_getElem_cons (by simpa using h)]
  rfl

theorem mval_str (s : ByteArray) (h : 0 < s.size) : mval s.data.toList = if s.data.toList.drop (sg s[0]) = [] then none else ends (decide (s[0].toNat = 45)) (mg false 0 (s.data.toList.drop (sg s[0]))) := by
  have e : s.data.toList = s[0] :: s.data.toList.drop 1 := by simpa using list_at s 0 h
  rw [e]
  exact mval_cons _ _

set_option maxHeartbeats 1000000 in
theorem model_any (s : ByteArray) (w : World) (h1 : 1 ≤ s.size) (h2 : s.size ≤ 9223372036854775806) :
    Calls Ybad.prog 7 #[.string s] w fun e w' => e = .returned (mres (mval s.data.toList)) ∧ w' = w := by
  have hp : 0 < s.size := h1
  have hz : ((s.size : Int) == 0) = false := by rw [beq_eq_false_iff_ne]; omega
  have HM : Hid (mval s.data.toList = if s.data.toList.drop (sg s[0]) = [] then none else ends (decide (s[0].toNat = 45)) (mg false 0 (s.data.toList.drop (sg s[0])))) := mval_str s hp
  have hsg : sg s[0] ≤ 1 := by unfold sg; split <;> omega
  go_enter Ybad.func7, Ybad.ntmps7
  go_upto_region 5 with fail
  go_cut [20] (fun v wx => v = .bool (decide (sg s[0] = 1)) ∧ w = wx)
  case first =>
    go_wp2
    all_goals go_meet
    all_goals exact ⟨by rw [sgB] <;> simp [*], rfl⟩
  case rest =>
  obtain ⟨rfl, rfl⟩ := hcut
  go_upto_if 20 with fail
  go_cut [4, 5] (fun v b wx => v = .int .i64 (sg s[0] : Nat) ∧ b = .bool (decide (s[0].toNat = 45)) ∧ w = wx)
  case first =>
    by_cases h43 : (s[0].toNat : Int) = 43
    · have hh := sg_plus h43
      have hd : decide (sg s[0] = 1) = true := by rw [hh.1]; rfl
      go_wp2
      all_goals go_meet
      all_goals exact cut_rel hh
    · by_cases h45 : (s[0].toNat : Int) = 45
      · have hh := sg_minus h45
        have hd : decide (sg s[0] = 1) = true := by rw [hh.1]; rfl
        go_wp2
        all_goals go_meet
        all_goals exact cut_rel hh
      · have hh := sg_no h43 h45
        have hd : decide (sg s[0] = 1) = false := by rw [hh.1]; rfl
        go_wp2
        all_goals go_meet
        all_goals exact cut_rel hh
  case rest =>
    obtain ⟨rfl, rfl, rfl⟩ := hcut
    generalize hj : sg s[0] = j at HM hsg ⊢
    generalize hn : decide (s[0].toNat = 45) = ng at HM ⊢
    clear hj hn
    by_cases hjs : j = s.size
    · have hd : ((j : Int) == (s.size : Int)) = true := by rw [beq_iff_eq]; omega
      have hv : mval s.data.toList = none := by rw [HM.out, if_pos (by rw [List.drop_eq_nil_iff]; simpa using Nat.le_of_eq hjs.symm)]
      go_wp2
      go_ret2
      exact ⟨by rw [hv]; rfl, rfl⟩
    · have hd : ((j : Int) == (s.size : Int)) = false := by rw [beq_eq_false_iff_ne]; omega
      have HV : Hid (mval s.data.toList = ends ng (mg false 0 (s.data.toList.drop j))) := by
        refine HM.out.trans ?_
        rw [if_neg (by rw [List.drop_eq_nil_iff]; simp; omega)]
      clear HM
      go_wp2
      go_loopg [4, 6, 7] (s.size - j) (fun q iv mv ov wx => ∃ (i m : Nat) (o : Bool), q + i = s.size ∧ iv = .int .i64 i ∧ mv = .int .u64 m ∧ ov = .bool o ∧ m < 18446744073709551616 ∧ w = wx ∧ mg false 0 (s.data.toList.drop j) = mg o m (s.data.toList.drop i))
      case atStart => exact ⟨j, 0, false, by omega, rfl, rfl, rfl, by decide, rfl, rfl⟩
      case round =>
        obtain ⟨i, m, o, hq, rfl, rfl, rfl, hm, rfl, hmg⟩ := hrel
        have HG : Hid (mg false 0 (s.data.toList.drop j) = mg o m (s.data.toList.drop i)) := hmg
        clear hmg
        by_cases his : i < s.size
        · have hd1 : decide ((i : Int) < (s.size : Int)) = true := by rw [decide_eq_true_eq]; omega
          have HL : Hid (s.data.toList.drop i = s[i] :: s.data.toList.drop (i + 1)) := list_at s i his
          have hi0 : (0 : Int) ≤ (i : Int) := by omega
          have hi1 : (i : Int) < (s.size : Int) := by omega
          by_cases c0 : s[i].toNat < 48
          · have hc0 : decide ((s[i].toNat : Int) < 48) = true := by rw [decide_eq_true_eq]; omega
            have HV2 : Hid (mval s.data.toList = none) := by
              refine HV.out.trans ?_
              rw [HG.out, HL.out, mg_bad _ _ _ _ (by omega)]; rfl
            go_wp2
            go_ret2
            exact ⟨by rw [HV2.out]; rfl, rfl⟩
          · have hc0 : decide ((s[i].toNat : Int) < 48) = false := by rw [decide_eq_false_iff_not]; omega
            by_cases c1 : 57 < s[i].toNat
            · have hc1 : decide (57 < (s[i].toNat : Int)) = true := by rw [decide_eq_true_eq]; omega
              have HV2 : Hid (mval s.data.toList = none) := by
                refine HV.out.trans ?_
                rw [HG.out, HL.out, mg_bad _ _ _ _ (by omega)]; rfl
              go_wp2
              go_ret2
              exact ⟨by rw [HV2.out]; rfl, rfl⟩
            · have hc1 : decide (57 < (s[i].toNat : Int)) = false := by rw [decide_eq_false_iff_not]; omega
              cases o with
              | true =>
                go_wp2
                go_roundg (s.size - (i + 1))
                case measure => omega
                case rel =>
                  refine ⟨i + 1, m, true, by omega, by go_num, rfl, rfl, hm, rfl, ?_⟩
                  rw [HG.out, HL.out, mg_over _ _ _ (by omega) (by omega)]
              | false =>
                obtain ⟨d, hd⟩ : ∃ d : Nat, s[i].toNat = 48 + d := ⟨s[i].toNat - 48, by omega⟩
                have HD : Hid (s[i].toNat = 48 + d) := hd
                rw [hd] at hc0 hc1
                go_wp2
                · rename_i hbr
                  go_roundg (s.size - (i + 1))
                  case measure => omega
                  case rel =>
                    refine ⟨i + 1, m, true, by omega, by go_num, rfl, rfl, hm, rfl, ?_⟩
                    rw [HG.out, HL.out, mg_brim m d _ _ HD.out (by omega) (by omega)]
                · rename_i hbr
                  go_roundg (s.size - (i + 1))
                  case measure => omega
                  case rel =>
                    refine ⟨i + 1, m * 10 + d, false, by omega, by go_num, by go_num, rfl, by omega, rfl, ?_⟩
                    rw [HG.out, HL.out, mg_step m d _ _ HD.out (by omega) (by omega)]
        · obtain rfl : i = s.size := by omega
          have hd1 : decide ((s.size : Int) < (s.size : Int)) = false := by simp
          have HE : Hid (mval s.data.toList = ends ng (some (o, m))) := by
            refine HV.out.trans ?_
            rw [HG.out, list_end]; rfl
          cases o with
          | true =>
            go_wp2
            go_ret2
            exact ⟨by rw [HE.out]; rfl, rfl⟩
          | false =>
            cases ng with
            | true =>
              by_cases hb : 9223372036854775808 < m
              · have hb1 : decide ((9223372036854775808 : Int) < (m : Int)) = true := by rw [decide_eq_true_eq]; omega
                go_wp2
                go_ret2
                exact ⟨by rw [HE.out]; simp [ends, hb, mres], rfl⟩
              · have hb1 : decide ((9223372036854775808 : Int) < (m : Int)) = false := by rw [decide_eq_false_iff_not]; omega
                go_wp2
                go_ret2
                refine ⟨?_, rfl⟩
                rw [HE.out]
                simp [ends, hb, mres, wrap_u64]
            | false =>
              by_cases hb : 9223372036854775807 < m
              · have hb1 : decide ((9223372036854775807 : Int) < (m : Int)) = true := by rw [decide_eq_true_eq]; omega
                go_wp2
                go_ret2
                exact ⟨by rw [HE.out]; simp [ends, hb, mres], rfl⟩
              · have hb1 : decide ((9223372036854775807 : Int) < (m : Int)) = false := by rw [decide_eq_false_iff_not]; omega
                go_wp2
                go_ret2
                exact ⟨by rw [HE.out]; simp [ends, hb, mres]; omega, rfl⟩

/-- zzs5920amodel, at every string. -/
theorem model_all (s : ByteArray) (w : World) (h2 : s.size ≤ 9223372036854775806) :
    Calls Ybad.prog 7 #[.string s] w fun e w' => e = .returned (mres (mval s.data.toList)) ∧ w' = w := by
  by_cases h : 1 ≤ s.size
  · exact model_any s w h h2
  · obtain ⟨d⟩ := s
    have : d = #[] := by
      have : d.size = 0 := Nat.eq_zero_of_not_pos h
      exact Array.eq_empty_of_size_eq_zero this
    subst this
    exact model_nil w
end Go.Proofs.YbulkdrosDoor
