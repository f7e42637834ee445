/-
  LawS5914AWhole walked: for 1 to 2^20 components it returns true and writes nothing that was there; outside that it returns true at once.
-/
import Derived.Test.YbulkdrlmFmtAMem
import Derived.Test.YbulkdrlmFmtAQuant
import Derived.Test.YbulkdrlmFmtAEq
import Derived.Handy
import Derived.Deep.LoopGhost
import Derived.Deep.DeepCutAuto
import Derived.Deep.DrawnRows
import Derived.Deep.RegionHeld3
import Derived.BigQuiet
import Derived.Deep.QuietTactic
namespace Go.Proofs.YbulkdrlmFmt
open Go.RowKit Go.Extern.Stop Go.Stop Go.Extern
attribute [local go_sem ↓] Go.wp_at_zero Go.wp_at_succ
attribute [local go_sem] run_neq_ptr27 run_neq_ptr36
attribute [local go_sem ↓] run_neq_tabs

theorem idx_of (i : Int) (n : Nat) (h : 1 ≤ n) : ∃ idx : Nat, (IntKind.u64.wrap i).tmod (n : Int) = idx ∧ idx < n := by
  have h0 : 0 ≤ IntKind.u64.wrap i := by rw [IntKind.wrap_u64]; omega
  have h1 := Int.tmod_nonneg (n : Int) h0
  have h2 := Int.tmod_lt_of_pos (IntKind.u64.wrap i) (show (0 : Int) < (n : Int) by omega)
  exact ⟨((IntKind.u64.wrap i).tmod n).toNat, by omega, by omega⟩

set_option maxRecDepth 100000 in
set_option maxHeartbeats 4000000 in
theorem walk_mid (F : Interp) (b off n cap : Nat) (i : Int) (I T : Nat → Int) (p0 p1 p2 p3 : Bool) (f0 f1 f2 f3 : Int) (w : World) (h1 : 1 ≤ n) (h2 : n ≤ 1048576) (hb : b < w.heap.size)
    (hI : ∀ m, m < n → w.cell? ⟨b, off + m * 2, none⟩ = some (.int .u8 (I m))) (hT : ∀ m, m < n → w.cell? ⟨b, off + m * 2 + 1, none⟩ = some (.int .u8 (T m)))
    (hTb : ∀ m, m < n → 0 ≤ T m ∧ T m ≤ 255) (hF : F.answers w.tape) :
    Calls Ybaf.prog 3 #[.slice (some ⟨b, off, none⟩) n cap, .int .i64 i, .agg #[.bool p0, .bool p1, .bool p2, .bool p3], .agg #[.int .u16 f0, .int .u16 f1, .int .u16 f2, .int .u16 f3]] w fun e w' => e = .returned (.bool true) ∧ Below w.heap.size w w' := by
  have hn0 : ((n : Int) == 0) = false := beq_eq_false_iff_ne.2 (by omega)
  have hn1 : decide ((1048576 : Int) < (n : Int)) = false := by simp; omega
  have hst := TabSt.start w p0 p1 p2 p3 f0 f1 f2 f3 (fun _ => 0)
  have HST : Hid _ := hst
  have HI : Hid _ := hI
  have HT : Hid _ := hT
  clear hI hT
  have hmk := run_make_comps n h2
  obtain ⟨idx, hidx, hil⟩ : ∃ idx : Nat, (IntKind.u64.wrap i).tmod (n : Int) = idx ∧ idx < n := idx_of i n h1
  clear hst
  go_enter Ybaf.func3, Ybaf.ntmps3
  go_wp2
  go_loopg [12] 4 (fun q v wr => ∃ k : Nat, q + k = 4 ∧ v = .int .i64 k ∧ ∃ G, TabSt w.heap.size (sel4 p0 p1 p2 p3) (sel4 f0 f1 f2 f3) w k G wr)
  case atStart => exact ⟨0, rfl, rfl, _, HST.out⟩
  case round =>
    rename World => wo
    obtain ⟨k, hk, rfl, G, ht⟩ := hrel
    by_cases hlt : k < 4
    · have hp := ht.pres.cell hlt
      have hs := ht.siz
      have hff := ht.fill.cell hlt
      have hkd : decide ((k : Int) < 4) = true := by simp; omega
      by_cases hpk : sel4 p0 p1 p2 p3 k = true
      · rw [hpk] at hp
        have HRS : Hid _ := RowSt.start (sel4 f0 f1 f2 f3 k) k wo
        go_wp2
        go_loopg [14] 64 (fun q v wi => ∃ m : Nat, q + m = 64 ∧ v = .int .i64 m ∧ RowSt (sel4 f0 f1 f2 f3 k) k wo m wi)
        case atStart => exact ⟨0, rfl, rfl, HRS.out⟩
        case round =>
          obtain ⟨m, hm, rfl, hr⟩ := hrel
          by_cases hml : m < 64
          · have hfi : wr.cell? ⟨w.heap.size + 1, k, none⟩ = some (.int .u16 (sel4 f0 f1 f2 f3 k)) := by
              rw [hr.below.cell (by show w.heap.size + 1 < wo.heap.size; omega)]; exact hff
            have hfz := hr.row.frozen m
            have hmd : decide ((m : Int) < 64) = true := by simp; omega
            have hcm := hr.row.cell hml
            have Hx : Hid _ := hr.step
            go_wp2
            go_region_with (go_at_call 5; refine (acell_any _ _ _ _ (by omega) (by omega) (by omega) (by omega)).mono ?_; rintro e w' ⟨rfl, rfl⟩)
            all_goals (go_wp2)
            all_goals (go_roundg (64 - (m + 1)))
            case measure => omega
            case rel => exact ⟨m + 1, by omega, by go_num, Hx.out.drew⟩
          · obtain rfl : m = 64 := by omega
            have ht0 := ht.tabs.frozen k
            have ht1 := ht.tabs.cell hlt
            have ht2 : wr.cell? ⟨w.heap.size + 1 + 1, k, none⟩ = _ := (hr.below.cell (by show w.heap.size + 2 < wo.heap.size; omega)).trans ht1
            have ht3 : wr.frozen? ⟨w.heap.size + 1 + 1, k, none⟩ = _ := (hr.below.frozen (by show w.heap.size + 2 < wo.heap.size; omega)).trans ht0
            have HY : Hid _ := TabSt.yes ht hpk hr.below hr.full
            clear ht0 ht1
            go_wp2
            go_roundg (4 - (k + 1))
            case measure => omega
            case rel => exact ⟨k + 1, by omega, by go_num, _, HY.out⟩
      · have hpf : sel4 p0 p1 p2 p3 k = false := by simpa using hpk
        rw [hpf] at hp
        have HN : Hid _ := ht.no hpf
        go_wp2
        go_roundg (4 - (k + 1))
        case measure => omega
        case rel => exact ⟨k + 1, by omega, by go_num, _, HN.out⟩
    · obtain rfl : k = 4 := by omega
      have hkd : decide (((4 : Nat) : Int) < 4) = false := by simp
      have HC : Hid _ := CompSt.start I T n wo
      go_wp2
      go_loopg [16] n (fun q v wr => ∃ m : Nat, q + m = n ∧ v = .int .i64 m ∧ CompSt I T n wo m wr)
      case atStart => exact ⟨0, by omega, rfl, HC.out⟩
      case round =>
        rename World => w3
        obtain ⟨m, hm, rfl, hc⟩ := hrel
        by_cases hml : m < n
        · have hmd : decide ((m : Int) < (n : Int)) = true := by simp; omega
          have hbel : Below w.heap.size w w3 := ht.below.trans (hc.below.mono (by have := ht.siz; omega))
          have c0 : w3.cell? ⟨b, off + m * 2, none⟩ = some (.int .u8 (I m)) := (hbel.cell hb).trans (HI.out m hml)
          have c1 : w3.cell? ⟨b, off + m * 2 + 1, none⟩ = some (.int .u8 (T m)) := (hbel.cell hb).trans (HT.out m hml)
          obtain ⟨⟨g0, e0⟩, ⟨g1, e1⟩, ⟨g2, e2⟩, ⟨g3, e3⟩⟩ := hc.cells hml
          have z0 := hc.row.frozen (m * 4)
          have z1 := hc.row.frozen (m * 4 + 1)
          have z2 := hc.row.frozen (m * 4 + 2)
          have z3 := hc.row.frozen (m * 4 + 3)
          have hTm := hTb m hml
          have HS : Hid _ := hc.step
          go_wp2
          go_region
          go_wp2
          go_roundg (n - (m + 1))
          case measure => omega
          case rel => exact ⟨m + 1, by omega, by go_num, HS.out.drew⟩
        · obtain rfl : n = m := by omega
          have hmd : decide ((n : Int) < (n : Int)) = false := by simp
          have htr := ht.later hc.below
          obtain ⟨t0, e0⟩ : ∃ t, t = tpOf (sel4 p0 p1 p2 p3) G 0 := ⟨_, rfl⟩
          obtain ⟨t1, e1⟩ : ∃ t, t = tpOf (sel4 p0 p1 p2 p3) G 1 := ⟨_, rfl⟩
          obtain ⟨t2, e2⟩ : ∃ t, t = tpOf (sel4 p0 p1 p2 p3) G 2 := ⟨_, rfl⟩
          obtain ⟨t3, e3⟩ : ∃ t, t = tpOf (sel4 p0 p1 p2 p3) G 3 := ⟨_, rfl⟩
          have b0 : w3.cell? ⟨w.heap.size + 1 + 1, 0, none⟩ = some (.pointer t0) := e0 ▸ htr.tabs.cell (by omega)
          have b1 : w3.cell? ⟨w.heap.size + 1 + 1, 1, none⟩ = some (.pointer t1) := e1 ▸ htr.tabs.cell (by omega)
          have b2 : w3.cell? ⟨w.heap.size + 1 + 1, 2, none⟩ = some (.pointer t2) := e2 ▸ htr.tabs.cell (by omega)
          have b3 : w3.cell? ⟨w.heap.size + 1 + 1, 3, none⟩ = some (.pointer t3) := e3 ▸ htr.tabs.cell (by omega)
          have hsz := htr.siz
          have hs2 : w.heap.size + 1 + 1 < w3.heap.size := by omega
          have HM : Hid _ := MemA.start ht hc t0 t1 t2 t3 e0 e1 e2 e3
          have HE : Hid (t0 = tpOf (sel4 p0 p1 p2 p3) G 0 ∧ t1 = tpOf (sel4 p0 p1 p2 p3) G 1 ∧ t2 = tpOf (sel4 p0 p1 p2 p3) G 2 ∧ t3 = tpOf (sel4 p0 p1 p2 p3) G 3) := ⟨e0, e1, e2, e3⟩
          clear e0 e1 e2 e3 htr
          go_wp2_with fail
          obtain ⟨w4, hw4⟩ : ∃ x, x = (w3.alloc (.cells #[.int .u8 0, .int .i64 0, .int .i64 0, .int .i64 0, .slice (some ⟨wo.heap.size, 0, none⟩) n n, .int .i64 0, .int .i64 0] 38)).alloc
            (.cells #[.slice none 0 0, .pointer (some ⟨w3.heap.size, 0, none⟩), .pointer none, .pointer none, .pointer none, .pointer none, .pointer none, .pointer none, .pointer none, .pointer none,
              .pointer t0, .pointer t1, .pointer t2, .pointer t3, .int .i64 0, .bool false, .bool false, .int .u8 0, .nilFunc, .int .i64 0, .int .i64 0, .nilIface, .nilFunc, .nilFunc, .slice none 0 0, .slice none 0 0] 56) := ⟨_, rfl⟩
          have hM : MemA (sel4 p0 p1 p2 p3) (sel4 f0 f1 f2 f3) I T n w G wo.heap.size w3.heap.size (w3.heap.size + 1) w4 := hw4 ▸ HM.out _ _ rfl rfl rfl rfl rfl rfl
          rw [← hw4]
          have hF4 : F.answers w4.tape := by rw [hM.tab.below.tape]; exact hF
          clear hw4 b0 b1 b2 b3
          obtain ⟨m0, m1, m2, m3⟩ := hM.comps hil
          have hTi := hTb idx hil
          obtain ⟨tq, htq⟩ : ∃ tq : Nat, T idx % 4 = tq := ⟨(T idx % 4).toNat, by omega⟩
          have htl : tq < 4 := by omega
          rw [htq] at m3
          have hdq := hM.dq tq htl
          by_cases hpt : sel4 p0 p1 p2 p3 tq = true
          · rw [tpOf_yes hpt htl] at hdq
            refine (quant_yes (w3.heap.size + 1) w3.heap.size wo.heap.size n idx tq (I idx) 1 1 ⟨G tq, 0, none⟩ w4 hil htl hM.db hM.d1 hM.fr m0 m1 m2 m3 hdq).mono ?_
            rintro e w5 ⟨rfl, hb5⟩
            have hM5 := hM.later hb5
            have c1 : w5.cell? ⟨b, off + idx * 2 + 1, none⟩ = some (.int .u8 (T idx)) := (hM5.tab.below.cell hb).trans (HT.out idx hil)
            have c2 := hM5.tab.pres.cell htl
            have c3 := hM5.tabCell htl
            rw [tpOf_yes hpt htl] at c3
            rw [hpt] at c2
            clear m0 m1 m2 m3 hdq
            go_wp2_with fail
            have c1' : w5.cell? ⟨w3.heap.size + 1, 1, none⟩ = some (.pointer (some ⟨w3.heap.size, 0, none⟩)) := hM5.d1
            have b0 : w5.cell? ⟨w.heap.size + 1 + 1, 0, none⟩ = some (.pointer t0) := HE.out.1 ▸ hM5.tabCell (by omega)
            have b1 : w5.cell? ⟨w.heap.size + 1 + 1, 1, none⟩ = some (.pointer t1) := HE.out.2.1 ▸ hM5.tabCell (by omega)
            have b2 : w5.cell? ⟨w.heap.size + 1 + 1, 2, none⟩ = some (.pointer t2) := HE.out.2.2.1 ▸ hM5.tabCell (by omega)
            have b3 : w5.cell? ⟨w.heap.size + 1 + 1, 3, none⟩ = some (.pointer t3) := HE.out.2.2.2 ▸ hM5.tabCell (by omega)
            have q0 : w5.cell? ⟨w3.heap.size + 1, 10, none⟩ = some (.pointer t0) := HE.out.1 ▸ hM5.dq 0 (by omega)
            have q1 : w5.cell? ⟨w3.heap.size + 1, 11, none⟩ = some (.pointer t1) := HE.out.2.1 ▸ hM5.dq 1 (by omega)
            have q2 : w5.cell? ⟨w3.heap.size + 1, 12, none⟩ = some (.pointer t2) := HE.out.2.2.1 ▸ hM5.dq 2 (by omega)
            have q3 : w5.cell? ⟨w3.heap.size + 1, 13, none⟩ = some (.pointer t3) := HE.out.2.2.2 ▸ hM5.dq 3 (by omega)
            have c4' : w5.cell? ⟨w3.heap.size, 4, none⟩ = some (.slice (some ⟨wo.heap.size, 0, none⟩) n n) := hM5.fr
            go_quiet (fail)
            go_wp2
            clear b0 b1 b2 b3 q0 q1 q2 q3 c1' c4'
            go_loopg [22] n (fun q v wx => ∃ m : Nat, q + m = n ∧ v = .int .i64 m ∧ MemA (sel4 p0 p1 p2 p3) (sel4 f0 f1 f2 f3) I T n w G wo.heap.size w3.heap.size (w3.heap.size + 1) wx)
            case atStart => exact ⟨0, by omega, rfl, hM5.later (below_drewN (Below.refl _ _) _)⟩
            case round =>
              obtain ⟨m, hm, rfl, hx⟩ := hrel
              by_cases hml : m < n
              · have hmd : decide ((m : Int) < (n : Int)) = true := by simp; omega
                obtain ⟨m0, m1, m2, m3⟩ := hx.comps hml
                have c0 : wr.cell? ⟨b, off + m * 2, none⟩ = some (.int .u8 (I m)) := (hx.tab.below.cell hb).trans (HI.out m hml)
                have c1 : wr.cell? ⟨b, off + m * 2 + 1, none⟩ = some (.int .u8 (T m)) := (hx.tab.below.cell hb).trans (HT.out m hml)
                have hTm := hTb m hml
                have d1 := hx.d1
                have fr := hx.fr
                have hbw : b < wr.heap.size := Nat.lt_of_lt_of_le hb hx.tab.below.size
                have HX : Hid _ := hx
                go_wp2
                go_quiet (fail)
                go_wp2
                go_roundg (n - (m + 1))
                case measure => omega
                case rel => exact ⟨m + 1, by omega, by go_num, HX.out.later (below_drewN (Below.alloc (Below.refl _ _) (Nat.le_refl _) _) _)⟩
              · obtain rfl : n = m := by omega
                have hmd : decide ((n : Int) < (n : Int)) = false := by simp
                go_wp2
                rename World => w6
                go_loopg [24] 4 (fun q v wx => ∃ k : Nat, q + k = 4 ∧ v = .int .i64 k ∧ MemA (sel4 p0 p1 p2 p3) (sel4 f0 f1 f2 f3) I T n w G wo.heap.size w3.heap.size (w3.heap.size + 1) wx)
                case atStart => exact ⟨0, rfl, rfl, hx⟩
                case round =>
                  rename World => w7
                  clear hx
                  obtain ⟨k, hk5, rfl, hx⟩ := hrel
                  by_cases hk4 : k < 4
                  · have hkd5 : decide ((k : Int) < 4) = true := by simp; omega
                    have hp := hx.tab.pres.cell hk4
                    have hq := hx.dq k hk4
                    by_cases hpk : sel4 p0 p1 p2 p3 k = true
                    · rw [hpk] at hp
                      rw [tpOf_yes hpk hk4] at hq
                      have HX : Hid _ := hx
                      go_wp2
                      go_loopg [25] 64 (fun q v wx => ∃ m : Nat, q + m = 64 ∧ v = .int .i64 m ∧ MemA (sel4 p0 p1 p2 p3) (sel4 f0 f1 f2 f3) I T n w G wo.heap.size w3.heap.size (w3.heap.size + 1) wx)
                      case atStart => exact ⟨0, rfl, rfl, HX.out⟩
                      case round =>
                        obtain ⟨m, hm6, rfl, hy⟩ := hrel
                        by_cases hm64 : m < 64
                        · have hmd6 : decide ((m : Int) < 64) = true := by simp; omega
                          have hf := hy.tab.fill.cell hk4
                          have hqq := hy.dq k hk4
                          rw [tpOf_yes hpk hk4] at hqq
                          have hrw := (hy.tab.rows k hk4 hpk).2.cell hm64
                          go_wp2
                          go_quiet ((go_at_call 5; exact Calls.quiet_of_same (acell_any _ _ _ _ (by omega) (by omega) (by omega) (by omega))))
                          go_wp2
                          go_roundg (64 - (m + 1))
                          case measure => omega
                          case rel => exact ⟨m + 1, by omega, by go_num, hy.later (below_drewN (Below.refl _ _) _)⟩
                        · obtain rfl : m = 64 := by omega
                          have hmd6 : decide (((64 : Nat) : Int) < 64) = false := by simp
                          go_wp2
                          go_roundg (4 - (k + 1))
                          case measure => omega
                          case rel => exact ⟨k + 1, by omega, by go_num, hy⟩
                    · have hpf5 : sel4 p0 p1 p2 p3 k = false := by simpa using hpk
                      rw [hpf5] at hp
                      rw [tpOf_no hpf5] at hq
                      have HX : Hid _ := hx
                      go_wp2
                      go_roundg (4 - (k + 1))
                      case measure => omega
                      case rel => exact ⟨k + 1, by omega, by go_num, HX.out⟩
                  · obtain rfl : k = 4 := by omega
                    have hkd5 : decide (((4 : Nat) : Int) < 4) = false := by simp
                    have HX : Hid _ := hx
                    go_wp2
                    go_ret
                    exact ⟨rfl, HX.out.tab.below⟩
          · have hpf : sel4 p0 p1 p2 p3 tq = false := by simpa using hpt
            rw [tpOf_no hpf] at hdq
            refine (quant_no F (w3.heap.size + 1) w3.heap.size wo.heap.size n idx tq (I idx) 1 1 w4 hF4 hil htl hM.db hM.d1 hM.fr m0 m1 m2 m3 hdq).mono ?_
            rintro e w5 ⟨⟨ae, rfl⟩, hb5⟩
            have hM5 := hM.later hb5
            have c1 : w5.cell? ⟨b, off + idx * 2 + 1, none⟩ = some (.int .u8 (T idx)) := (hM5.tab.below.cell hb).trans (HT.out idx hil)
            have c2 := hM5.tab.pres.cell htl
            rw [hpf] at c2
            clear m0 m1 m2 m3 hdq
            go_wp2_with fail
            have c1' : w5.cell? ⟨w3.heap.size + 1, 1, none⟩ = some (.pointer (some ⟨w3.heap.size, 0, none⟩)) := hM5.d1
            have b0 : w5.cell? ⟨w.heap.size + 1 + 1, 0, none⟩ = some (.pointer t0) := HE.out.1 ▸ hM5.tabCell (by omega)
            have b1 : w5.cell? ⟨w.heap.size + 1 + 1, 1, none⟩ = some (.pointer t1) := HE.out.2.1 ▸ hM5.tabCell (by omega)
            have b2 : w5.cell? ⟨w.heap.size + 1 + 1, 2, none⟩ = some (.pointer t2) := HE.out.2.2.1 ▸ hM5.tabCell (by omega)
            have b3 : w5.cell? ⟨w.heap.size + 1 + 1, 3, none⟩ = some (.pointer t3) := HE.out.2.2.2 ▸ hM5.tabCell (by omega)
            have q0 : w5.cell? ⟨w3.heap.size + 1, 10, none⟩ = some (.pointer t0) := HE.out.1 ▸ hM5.dq 0 (by omega)
            have q1 : w5.cell? ⟨w3.heap.size + 1, 11, none⟩ = some (.pointer t1) := HE.out.2.1 ▸ hM5.dq 1 (by omega)
            have q2 : w5.cell? ⟨w3.heap.size + 1, 12, none⟩ = some (.pointer t2) := HE.out.2.2.1 ▸ hM5.dq 2 (by omega)
            have q3 : w5.cell? ⟨w3.heap.size + 1, 13, none⟩ = some (.pointer t3) := HE.out.2.2.2 ▸ hM5.dq 3 (by omega)
            have c4' : w5.cell? ⟨w3.heap.size, 4, none⟩ = some (.slice (some ⟨wo.heap.size, 0, none⟩) n n) := hM5.fr
            go_quiet (fail)
            go_wp2
            clear b0 b1 b2 b3 q0 q1 q2 q3 c1' c4'
            go_loopg [22] n (fun q v wx => ∃ m : Nat, q + m = n ∧ v = .int .i64 m ∧ MemA (sel4 p0 p1 p2 p3) (sel4 f0 f1 f2 f3) I T n w G wo.heap.size w3.heap.size (w3.heap.size + 1) wx)
            case atStart => exact ⟨0, by omega, rfl, hM5.later (below_drewN (Below.refl _ _) _)⟩
            case round =>
              obtain ⟨m, hm, rfl, hx⟩ := hrel
              by_cases hml : m < n
              · have hmd : decide ((m : Int) < (n : Int)) = true := by simp; omega
                obtain ⟨m0, m1, m2, m3⟩ := hx.comps hml
                have c0 : wr.cell? ⟨b, off + m * 2, none⟩ = some (.int .u8 (I m)) := (hx.tab.below.cell hb).trans (HI.out m hml)
                have c1 : wr.cell? ⟨b, off + m * 2 + 1, none⟩ = some (.int .u8 (T m)) := (hx.tab.below.cell hb).trans (HT.out m hml)
                have hTm := hTb m hml
                have d1 := hx.d1
                have fr := hx.fr
                have hbw : b < wr.heap.size := Nat.lt_of_lt_of_le hb hx.tab.below.size
                have HX : Hid _ := hx
                go_wp2
                go_quiet (fail)
                go_wp2
                go_roundg (n - (m + 1))
                case measure => omega
                case rel => exact ⟨m + 1, by omega, by go_num, HX.out.later (below_drewN (Below.alloc (Below.refl _ _) (Nat.le_refl _) _) _)⟩
              · obtain rfl : n = m := by omega
                have hmd : decide ((n : Int) < (n : Int)) = false := by simp
                go_wp2
                rename World => w6
                go_loopg [24] 4 (fun q v wx => ∃ k : Nat, q + k = 4 ∧ v = .int .i64 k ∧ MemA (sel4 p0 p1 p2 p3) (sel4 f0 f1 f2 f3) I T n w G wo.heap.size w3.heap.size (w3.heap.size + 1) wx)
                case atStart => exact ⟨0, rfl, rfl, hx⟩
                case round =>
                  rename World => w7
                  clear hx
                  obtain ⟨k, hk5, rfl, hx⟩ := hrel
                  by_cases hk4 : k < 4
                  · have hkd5 : decide ((k : Int) < 4) = true := by simp; omega
                    have hp := hx.tab.pres.cell hk4
                    have hq := hx.dq k hk4
                    by_cases hpk : sel4 p0 p1 p2 p3 k = true
                    · rw [hpk] at hp
                      rw [tpOf_yes hpk hk4] at hq
                      have HX : Hid _ := hx
                      go_wp2
                      go_loopg [25] 64 (fun q v wx => ∃ m : Nat, q + m = 64 ∧ v = .int .i64 m ∧ MemA (sel4 p0 p1 p2 p3) (sel4 f0 f1 f2 f3) I T n w G wo.heap.size w3.heap.size (w3.heap.size + 1) wx)
                      case atStart => exact ⟨0, rfl, rfl, HX.out⟩
                      case round =>
                        obtain ⟨m, hm6, rfl, hy⟩ := hrel
                        by_cases hm64 : m < 64
                        · have hmd6 : decide ((m : Int) < 64) = true := by simp; omega
                          have hf := hy.tab.fill.cell hk4
                          have hqq := hy.dq k hk4
                          rw [tpOf_yes hpk hk4] at hqq
                          have hrw := (hy.tab.rows k hk4 hpk).2.cell hm64
                          go_wp2
                          go_quiet ((go_at_call 5; exact Calls.quiet_of_same (acell_any _ _ _ _ (by omega) (by omega) (by omega) (by omega))))
                          go_wp2
                          go_roundg (64 - (m + 1))
                          case measure => omega
                          case rel => exact ⟨m + 1, by omega, by go_num, hy.later (below_drewN (Below.refl _ _) _)⟩
                        · obtain rfl : m = 64 := by omega
                          have hmd6 : decide (((64 : Nat) : Int) < 64) = false := by simp
                          go_wp2
                          go_roundg (4 - (k + 1))
                          case measure => omega
                          case rel => exact ⟨k + 1, by omega, by go_num, hy⟩
                    · have hpf5 : sel4 p0 p1 p2 p3 k = false := by simpa using hpk
                      rw [hpf5] at hp
                      rw [tpOf_no hpf5] at hq
                      have HX : Hid _ := hx
                      go_wp2
                      go_roundg (4 - (k + 1))
                      case measure => omega
                      case rel => exact ⟨k + 1, by omega, by go_num, HX.out⟩
                  · obtain rfl : k = 4 := by omega
                    have hkd5 : decide (((4 : Nat) : Int) < 4) = false := by simp
                    have HX : Hid _ := hx
                    go_wp2
                    go_ret
                    exact ⟨rfl, HX.out.tab.below⟩

set_option maxRecDepth 100000 in
theorem walk_out (ao : Option Addr) (n cap : Nat) (i : Int) (p0 p1 p2 p3 : Bool) (f0 f1 f2 f3 : Int) (w : World) (h : n = 0 ∨ 1048576 < n) (hm : n ≤ 9223372036854775807) :
    Calls Ybaf.prog 3 #[.slice ao n cap, .int .i64 i, .agg #[.bool p0, .bool p1, .bool p2, .bool p3], .agg #[.int .u16 f0, .int .u16 f1, .int .u16 f2, .int .u16 f3]] w fun e w' => e = .returned (.bool true) ∧ Below w.heap.size w w' := by
  rcases h with rfl | h
  · go_enter Ybaf.func3, Ybaf.ntmps3
    go_wp2
    go_ret
    exact ⟨rfl, ((Below.refl _ _).alloc (Nat.le_refl _) _).alloc (by simp) _⟩
  · have hn0 : ((n : Int) == 0) = false := beq_eq_false_iff_ne.2 (by omega)
    have hn1 : decide ((1048576 : Int) < (n : Int)) = true := by simp; omega
    go_enter Ybaf.func3, Ybaf.ntmps3
    go_wp2
    go_ret
    exact ⟨rfl, ((Below.refl _ _).alloc (Nat.le_refl _) _).alloc (by simp) _⟩
end Go.Proofs.YbulkdrlmFmt
