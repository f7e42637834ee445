/-
  LawS5915CWhole walked.
-/
import Derived.Test.YbulkdrmaTag
import Derived.Handy
import Derived.Deep.LoopGhost
import Derived.Deep.DrawnRows
import Derived.Deep.RegionHeld3
import Derived.Deep.DeepCutAuto
namespace Go.Proofs.Ybulkdrma
open Go.RowKit
attribute [local go_sem ↓] Go.wp_at_zero Go.wp_at_succ

theorem ret_string {a b : ByteArray} (h : a = b) : Ending.returned (.string a) = .returned (.string b) := by rw [h]

theorem cname (s : Int) (nm tx : ByteArray) (fd : Bool) (w : World) (h0 : 0 ≤ s) (h1 : s ≤ 255) :
    Calls Yba.prog 4 #[.agg #[.int .u8 s, .string nm, .string tx, .bool fd]] w fun e w' => e = .returned (.string (nameOf s nm)) ∧ w' = w.alloc (.cells #[.int .u8 s, .string nm, .string tx, .bool fd] 27) := by
  go_enter Yba.func4, Yba.ntmps4
  go_wp2
  all_goals go_ret
  all_goals exact ⟨ret_string (by simp [nameOf, *]), rfl⟩

set_option maxHeartbeats 400000 in
theorem walk_nil (w : World) :
    Calls Yba.prog 3 #[.slice none 0 0] w fun e w' => e = .returned (.bool true) ∧ Below w.heap.size w w' := by
  go_enter Yba.func3, Yba.ntmps3
  go_wp2
  go_rounds 1
  go_rounds 1
  go_rounds 1
  go_rounds 1
  go_ret
  exact ⟨rfl, by go_grown⟩

set_option maxHeartbeats 400000 in
theorem walk_empty (a : Addr) (cap : Nat) (w : World) :
    Calls Yba.prog 3 #[.slice (some a) 0 cap] w fun e w' => e = .returned (.bool true) ∧ Below w.heap.size w w' := by
  have hmk : ∀ w, (Instr.makeSlice 23 (.int .i64 0) (.int .i64 0)).run Yba.prog w = .ok (.slice (some ⟨w.heap.size, 0, none⟩) 0 0) (w.alloc (.cells (zeroKv 0) 37)) := run_make_kv 0 (by omega)
  have hne := fun wx => run_neq_slice_nil_any (P := Yba.prog) wx 22 27 (some a) 0 cap 0 0 Yba.underlying22
  go_enter Yba.func3, Yba.ntmps3
  go_wp2
  go_rounds 1
  go_rounds 1
  go_rounds 1
  go_rounds 1
  go_ret
  exact ⟨rfl, by go_grown⟩

set_option maxHeartbeats 400000 in
theorem walk_over (ao : Option Addr) (n cap : Nat) (w : World) (h : 1048576 < n) (hm : n ≤ 9223372036854775807) :
    Calls Yba.prog 3 #[.slice ao n cap] w fun e w' => e = .returned (.bool true) ∧ Below w.heap.size w w' := by
  have hd : decide ((1048576 : Int) < (n : Int)) = true := by simp; omega
  go_enter Yba.func3, Yba.ntmps3
  go_wp2
  go_ret
  exact ⟨rfl, Below.refl _ _⟩

set_option maxRecDepth 100000 in
set_option maxHeartbeats 1000000 in
theorem walk_mid (b off n cap : Nat) (S : Nat → Int) (N X : Nat → ByteArray) (D : Nat → Bool) (w : World) (h1 : 1 ≤ n) (h2 : n ≤ 1048576) (hb : b < w.heap.size)
    (hc : Hid (∀ i, i < n → w.cell? ⟨b, off + i * 4, none⟩ = some (.int .u8 (S i)) ∧ w.cell? ⟨b, off + i * 4 + 1, none⟩ = some (.string (N i)) ∧ w.cell? ⟨b, off + i * 4 + 2, none⟩ = some (.string (X i)) ∧ w.cell? ⟨b, off + i * 4 + 3, none⟩ = some (.bool (D i))))
    (hS : Hid (∀ i, i < n → 0 ≤ S i ∧ S i ≤ 255)) :
    Calls Yba.prog 3 #[.slice (some ⟨b, off, none⟩) n cap] w fun e w' => e = .returned (.bool true) ∧ Below w.heap.size w w' := by
  have hmk := run_make_kv n h2
  have hne := fun wx => run_neq_slice_nil_any (P := Yba.prog) wx 22 27 (some ⟨b, off, none⟩) n cap 0 0 Yba.underlying22
  have hd : decide ((1048576 : Int) < (n : Int)) = false := by simp; omega
  have HK : Hid (KSt w n (fun i => nameOf (S i) (N i)) X D 0 (fun _ => 0) (w.alloc (.cells (zeroKv n) 37))) := KSt.start ..
  go_enter Yba.func3, Yba.ntmps3
  go_wp2
  go_loopg [23] n (fun q v wr => ∃ k : Nat, q + k = n ∧ v = .int .i64 k ∧ ∃ G, KSt w n (fun i => nameOf (S i) (N i)) X D k G wr)
  case atStart => exact ⟨0, by omega, rfl, _, HK.out⟩
  case round =>
    clear HK
    obtain ⟨k, hk, rfl, G, hkst⟩ := hrel
    by_cases hkn : k < n
    · have hdk : decide ((k : Int) < (n : Int)) = true := by simp; omega
      obtain ⟨c0, c1, c2, c3⟩ := hc.out k hkn
      obtain ⟨s0, s1⟩ := hS.out k hkn
      have f0 : wr.cell? ⟨b, off + k * 4, none⟩ = some (.int .u8 (S k)) := (hkst.below.cell (by exact hb)).trans c0
      have f1 : wr.cell? ⟨b, off + k * 4 + 1, none⟩ = some (.string (N k)) := (hkst.below.cell (by exact hb)).trans c1
      have f2 : wr.cell? ⟨b, off + k * 4 + 2, none⟩ = some (.string (X k)) := (hkst.below.cell (by exact hb)).trans c2
      have f3 : wr.cell? ⟨b, off + k * 4 + 3, none⟩ = some (.bool (D k)) := (hkst.below.cell (by exact hb)).trans c3
      clear c0 c1 c2 c3
      have e0 := hkst.row.cell (show k * 6 < n * 6 by omega)
      have e1 := hkst.row.cell (show k * 6 + 1 < n * 6 by omega)
      have e2 := hkst.row.cell (show k * 6 + 2 < n * 6 by omega)
      have e3 := hkst.row.cell (show k * 6 + 3 < n * 6 by omega)
      have e4 := hkst.row.cell (show k * 6 + 4 < n * 6 by omega)
      have e5 := hkst.row.cell (show k * 6 + 5 < n * 6 by omega)
      have z0 := hkst.row.frozen (k * 6)
      have z1 := hkst.row.frozen (k * 6 + 1)
      have z2 := hkst.row.frozen (k * 6 + 2)
      have z3 := hkst.row.frozen (k * 6 + 3)
      have z4 := hkst.row.frozen (k * 6 + 4)
      have z5 := hkst.row.frozen (k * 6 + 5)
      have hsz := hkst.siz
      have hbw : b < wr.heap.size := by omega
      have i0 : (0 : Int) ≤ (k : Int) := by omega
      have hbne : ¬ b = w.heap.size := by omega
      have hbne' : ¬ w.heap.size = b := by omega
      have i1 : (k : Int) < (n : Int) := by omega
      have HK : Hid (KSt w n (fun i => nameOf (S i) (N i)) X D k G wr) := hkst
      have HN : Hid (KSt w n (fun i => nameOf (S i) (N i)) X D (k + 1) (fun i => if i = k then wr.heap.size + 1 else G i) (((six wr w.heap.size k (wr.heap.size + 1) (X k) (D k)).alloc (.cells #[.int .u8 (S k), .string (N k), .string (X k), .bool (D k)] 27)).alloc (.cells #[.string (nameOf (S k) (N k)), .int .i64 0, .slice none 0 0] 31))) := hkst.step _
      clear hkst
      go_wp2
      go_region_held3 (fun w' => w'.cell? ⟨b, off + k * 4, none⟩ = some (.int .u8 (S k)) ∧ w'.cell? ⟨b, off + k * 4 + 1, none⟩ = some (.string (N k)) ∧ w'.cell? ⟨b, off + k * 4 + 2, none⟩ = some (.string (X k)) ∧ w'.cell? ⟨b, off + k * 4 + 3, none⟩ = some (.bool (D k))) (first | (refine ⟨?_, ?_, ?_, ?_⟩ <;> (rw [keep_cell _ _ _ _ _ _ _ _ _ _ _ _ (by exact hbne) (by exact hbw)]; assumption)) | go_keep) (first | (go_at_call 4; refine (cname _ _ _ _ _ (by omega) (by omega)).mono ?_; rintro e w' ⟨rfl, rfl⟩))
      go_wp2
      go_roundg (n - (k + 1))
      case measure => omega
      case rel => exact ⟨k + 1, by omega, by go_num, _, HN.out.drew⟩
    · obtain rfl : n = k := by omega
      have hdk : decide ((n : Int) < (n : Int)) = false := by simp
      have HK : Hid (KSt w n (fun i => nameOf (S i) (N i)) X D n G wr) := hkst
      have hsz := hkst.siz
      clear hkst
      rename World => w1
      go_wp2_with fail
      obtain ⟨w2, hw2⟩ : ∃ x, x = w1.alloc (.cells #[.string ⟨#[120]⟩, .int .u64 0, .int .u64 0, .int .i64 0, .pointer none, .int .i64 0, .int .i64 0, .slice none 0 0, .slice (some ⟨w.heap.size, 0, none⟩) n n, .string ⟨#[]⟩, .int .u64 0, .int .i64 0, .pointer none, .int .i64 0, .string ⟨#[]⟩, .pointer none, .int .i64 0, .pointer none] 43) := ⟨_, rfl⟩
      have HM : Hid (MC w n (fun i => nameOf (S i) (N i)) X D G w1.heap.size w2) := hw2 ▸ MC.start HK.out _ rfl rfl
      rw [← hw2]
      clear hw2
      refine (tag_any w1.heap.size w.heap.size n G (fun i => nameOf (S i) (N i)) X w2 h2 HM.out.cv (fun i hi => ⟨(HM.out.kv hi).1, (HM.out.k.keys i hi).2.1⟩) (fun i hi => (HM.out.kv hi).2.1)).mono ?_
      rintro e w3 ⟨⟨i, hf, hcase⟩, rfl⟩
      have HF : Hid (FirstTag (fun i => nameOf (S i) (N i)) 0 n i) := hf
      clear hf
      obtain ⟨tg, ok, rfl, hok⟩ : ∃ tg ok, e = .returned (.tuple #[.string tg, .bool ok]) ∧ ((i < n ∧ tg = X i ∧ ok = true) ∨ (i = n ∧ tg = ⟨#[]⟩ ∧ ok = false)) := by
        rcases hcase with ⟨hi, rfl⟩ | ⟨hi, rfl⟩
        · exact ⟨_, _, rfl, .inl ⟨hi, rfl, rfl⟩⟩
        · exact ⟨_, _, rfl, .inr ⟨hi, rfl, rfl⟩⟩
      have HO : Hid ((i < n ∧ tg = X i ∧ ok = true) ∨ (i = n ∧ tg = ⟨#[]⟩ ∧ ok = false)) := hok
      clear hcase hok
      go_wp2
      go_loopg [8, 9, 10] n (fun q wt wo iv wx => ∃ m : Nat, q = m ∧ m ≤ n ∧ (∃ j : Int, iv = .int .i64 j ∧ j + 1 = m) ∧ (∃ f, FirstTag (fun i => nameOf (S i) (N i)) m n f ∧ ((f < n ∧ wt = .string (X f) ∧ wo = .bool true) ∨ (f = n ∧ wt = .string ⟨#[]⟩ ∧ wo = .bool false))) ∧ MC w n (fun i => nameOf (S i) (N i)) X D G w1.heap.size wx)
      case atStart => exact ⟨n, rfl, Nat.le_refl _, ⟨_, rfl, by omega⟩, ⟨n, ⟨Nat.le_refl _, Nat.le_refl _, fun j h1 h2 => absurd h1 (by omega), fun h => absurd h (by omega)⟩, .inr ⟨rfl, rfl, rfl⟩⟩, HM.out⟩
      case round =>
        rename World => w4
        obtain ⟨m, hgm, hmn, ⟨j, rfl, hj⟩, ⟨f, hft, hfc⟩, hmc⟩ := hrel
        clear HM
        have HT : Hid (FirstTag (fun i => nameOf (S i) (N i)) m n f) := hft
        have HM : Hid (MC w n (fun i => nameOf (S i) (N i)) X D G w1.heap.size w4) := hmc
        have HFC : Hid ((f < n ∧ u8 = .string (X f) ∧ u9 = .bool true) ∨ (f = n ∧ u8 = .string ⟨#[]⟩ ∧ u9 = .bool false)) := hfc
        clear hft hfc
        by_cases hm0 : m = 0
        · subst hm0
          obtain rfl : j = -1 := by omega
          obtain rfl : i = f := HF.out.uniq HT.out
          obtain ⟨rfl, rfl⟩ : u8 = .string tg ∧ u9 = .bool ok := by
            rcases HO.out with ⟨h1, h2, h3⟩ | ⟨h1, h2, h3⟩ <;> rcases HFC.out with ⟨k1, k2, k3⟩ | ⟨k1, k2, k3⟩
            · exact ⟨by rw [k2, h2], by rw [k3, h3]⟩
            · exact absurd h1 (by omega)
            · exact absurd k1 (by omega)
            · exact ⟨by rw [k2, h2], by rw [k3, h3]⟩
          have g0 := hmc.cid
          have g8 := hmc.cv
          clear hmc HO HFC HT HF hj hgm
          go_wp2
          go_loopg [99] n (fun q v wx => ∃ k : Nat, q + k = n ∧ v = .int .i64 k ∧ MC w n (fun i => nameOf (S i) (N i)) X D G w1.heap.size wx)
          case atStart => exact ⟨0, by omega, rfl, HM.out⟩
          case round =>
            clear HM g0 g8
            obtain ⟨k, hk3, rfl, hmc⟩ := hrel
            have HM : Hid (MC w n (fun i => nameOf (S i) (N i)) X D G w1.heap.size wr) := hmc
            by_cases hkn : k < n
            · have hdk : decide ((k : Int) < (n : Int)) = true := by simp; omega
              obtain ⟨c0, c1, c2, c3⟩ := hc.out k hkn
              obtain ⟨s0, s1⟩ := hS.out k hkn
              have f0 : wr.cell? ⟨b, off + k * 4, none⟩ = some (.int .u8 (S k)) := (hmc.k.below.cell (by exact hb)).trans c0
              have f1 : wr.cell? ⟨b, off + k * 4 + 1, none⟩ = some (.string (N k)) := (hmc.k.below.cell (by exact hb)).trans c1
              have f2 : wr.cell? ⟨b, off + k * 4 + 2, none⟩ = some (.string (X k)) := (hmc.k.below.cell (by exact hb)).trans c2
              have f3 : wr.cell? ⟨b, off + k * 4 + 3, none⟩ = some (.bool (D k)) := (hmc.k.below.cell (by exact hb)).trans c3
              have hbw : b < wr.heap.size := Nat.lt_of_lt_of_le hb hmc.k.below.size
              clear c0 c1 c2 c3
              obtain ⟨e0, e1, e2, e3, e4, e5⟩ := hmc.kv hkn
              have g8 := hmc.cv
              obtain ⟨k1, k2, k3⟩ := hmc.k.keys k hkn
              clear hmc
              have i0 : (0 : Int) ≤ (k : Int) := by omega
              have i1 : (k : Int) < (n : Int) := by omega
              go_wp2
              go_region_held3 (fun w' => w'.cell? ⟨b, off + k * 4, none⟩ = some (.int .u8 (S k)) ∧ w'.cell? ⟨b, off + k * 4 + 1, none⟩ = some (.string (N k)) ∧ w'.cell? ⟨b, off + k * 4 + 2, none⟩ = some (.string (X k)) ∧ w'.cell? ⟨b, off + k * 4 + 3, none⟩ = some (.bool (D k)) ∧ w'.cell? ⟨G k, 0, none⟩ = some (.string (nameOf (S k) (N k))) ∧ w'.cell? ⟨wr.heap.size, 0, none⟩ = some (.pointer (some ⟨G k, 0, none⟩)) ∧ w'.cell? ⟨wr.heap.size, 1, none⟩ = some (.string (X k)) ∧ w'.cell? ⟨wr.heap.size, 5, none⟩ = some (.bool (D k))) (go_keep) (first | (go_at_call 4; refine (cname _ _ _ _ _ (by omega) (by omega)).mono ?_; rintro e w' ⟨rfl, rfl⟩))
              go_wp2
              go_roundg (n - (k + 1))
              case measure => omega
              case rel => exact ⟨k + 1, by omega, by go_num, HM.out.later (Below.drew (Below.alloc (Below.alloc (Below.refl _ _) (Nat.le_refl _) _) (by simp) _))⟩
            · obtain rfl : n = k := by omega
              have hdk : decide ((n : Int) < (n : Int)) = false := by simp
              clear hmc
              go_wp2
              go_ret
              exact ⟨rfl, HM.out.k.below⟩
        · obtain ⟨m', rfl⟩ : ∃ m', m = m' + 1 := ⟨m - 1, by omega⟩
          obtain rfl : j = (m' : Int) := by omega
          have hml : m' < n := by omega
          obtain ⟨c0, c1, c2, c3⟩ := hc.out m' hml
          obtain ⟨s0, s1⟩ := hS.out m' hml
          have f0 : w4.cell? ⟨b, off + m' * 4, none⟩ = some (.int .u8 (S m')) := (hmc.k.below.cell (by exact hb)).trans c0
          have f1 : w4.cell? ⟨b, off + m' * 4 + 1, none⟩ = some (.string (N m')) := (hmc.k.below.cell (by exact hb)).trans c1
          have f2 : w4.cell? ⟨b, off + m' * 4 + 2, none⟩ = some (.string (X m')) := (hmc.k.below.cell (by exact hb)).trans c2
          have f3 : w4.cell? ⟨b, off + m' * 4 + 3, none⟩ = some (.bool (D m')) := (hmc.k.below.cell (by exact hb)).trans c3
          have hbw : b < w4.heap.size := Nat.lt_of_lt_of_le hb hmc.k.below.size
          clear c0 c1 c2 c3 hmc hj
          cases ht : isTag (nameOf (S m') (N m'))
          · have htt : ((nameOf (S m') (N m')).toList == [116, 97, 103]) = false := ht
            have HX : Hid (isTag (nameOf (S m') (N m')) = false) := ht
            clear ht
            go_wp2_with (go_at_call 4; refine (cname _ _ _ _ _ (by omega) (by omega)).mono ?_; rintro e w' ⟨rfl, rfl⟩)
            go_roundg m'
            case measure => omega
            case rel => exact ⟨m', rfl, by omega, ⟨_, rfl, by omega⟩, ⟨f, ⟨by have := HT.out.ge; omega, HT.out.le, fun j h1 h2 => by
              by_cases e : j = m'
              · subst e; exact HX.out
              · exact HT.out.none j (by omega) h2, HT.out.tag⟩, HFC.out⟩, HM.out.later ((Below.refl _ _).alloc (Nat.le_refl _) _)⟩
          · have htt : ((nameOf (S m') (N m')).toList == [116, 97, 103]) = true := ht
            have HX : Hid (isTag (nameOf (S m') (N m')) = true) := ht
            clear ht
            go_wp2_with (go_at_call 4; refine (cname _ _ _ _ _ (by omega) (by omega)).mono ?_; rintro e w' ⟨rfl, rfl⟩)
            go_roundg m'
            case measure => omega
            case rel => exact ⟨m', rfl, by omega, ⟨_, rfl, by omega⟩, ⟨m', ⟨Nat.le_refl _, by omega, fun j h1 h2 => absurd h1 (by omega), fun _ => HX.out⟩, .inl ⟨hml, rfl, rfl⟩⟩, HM.out.later ((Below.refl _ _).alloc (Nat.le_refl _) _)⟩
end Go.Proofs.Ybulkdrma
