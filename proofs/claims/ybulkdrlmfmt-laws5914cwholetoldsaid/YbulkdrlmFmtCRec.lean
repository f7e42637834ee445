/-
  LawS5914CWhole: reconstruct by its contract; the comparison of two rows.
-/
import Derived.Test.YbulkdrlmFmtCPlain
import Derived.BigQuiet
import Derived.Deep.LoopGhost
import Derived.Deep.QuietTactic
namespace Go.Proofs.YbulkdrlmFmt
open Go.RowKit Go.Extern.Stop Go.Stop Go.Extern

/-- What reconstruct leaves. -/
def RecEnd (sv first b : Int) (R A : Nat → Int) (g n : Nat) (w : World) (e : Ending) (w' : World) : Prop :=
  ∃ i, Stops (fun k => fitB b (Vs sv first R A k)) n i ∧ w'.rowIs g 24 n (Mix (Vs sv first R A) R i) ∧ Wrote g w w' ∧
    ((i = n ∧ e = .returned (.tuple #[.int .i64 n, .nilIface])) ∨ (i < n ∧ ∃ a, e = .returned (.tuple #[.int .i64 i, .iface 74 (.pointer (some a))])))

set_option maxHeartbeats 1000000 in
theorem rec_one (F : Interp) (g h n m : Nat) (first b : Int) (R A : Nat → Int) (w : World) (hb0 : 0 ≤ b) (hb1 : b ≤ 255) (hn : n ≤ 1048576) (hF : F.answers w.tape)
    (hR : ∀ j, j < n → 0 ≤ R j ∧ R j ≤ 65535) (hrow : w.rowIs g 24 n (fun j => .int .u16 (R j))) :
    Calls Ybaf.prog 8 #[.slice (some ⟨g, 0, none⟩) n n, .slice (some ⟨h, 0, none⟩) m m, .int .i64 1, .int .i64 first, .int .i64 b] w (RecEnd 1 first b R A g n w) := by
  obtain ⟨L, hL⟩ : ∃ L, wrap64 (wrap64 (2 ^ min b.toNat 64) - 1) = L := ⟨_, rfl⟩
  have HF : Hid (∀ k, L < Vs 1 first R A k ↔ fitB b (Vs 1 first R A k) = false) := fun k => by
    rw [← hL]; exact limit_fit b _ hb0 hb1 (Vs_bd ..).1 (Vs_bd ..).2
  have HR : Hid _ := hR
  clear hR
  have Hst : Hid (w.rowIs g 24 n (Mix (Vs 1 first R A) R 0)) := hrow.congr fun i _ => (Mix_zero _ _ _).symm
  clear hrow
  go_enter Ybaf.func8, Ybaf.ntmps8
  go_wp2
  go_loopg [13, 26] n (fun q v i wr => ∃ k : Nat, q + k = n ∧ i = .int .i64 k ∧ v = .int .i64 (prd 1 first R A k) ∧ (∀ j, j < k → fitB b (Vs 1 first R A j) = true) ∧ wr.rowIs g 24 n (Mix (Vs 1 first R A) R k) ∧ Wrote g w wr)
  case atStart => exact ⟨0, by omega, rfl, rfl, fun j hj => absurd hj (by omega), Hst.out, Wrote.refl _ _⟩
  case round =>
    clear Hst
    obtain ⟨k, hk, rfl, rfl, hall, hrw, hwr⟩ := hrel
    have HA : Hid _ := hall
    have HW : Hid (wr.rowIs g 24 n (Mix (Vs 1 first R A) R k)) := hrw
    have HT : Hid _ := hwr
    by_cases hkn : k < n
    · have hd : decide ((k : Int) < (n : Int)) = true := by simp; omega
      obtain ⟨r0, r1⟩ := HR.out k hkn
      obtain ⟨v0, v1⟩ := Vs_bd 1 first R A k
      have hc := hrw.cell hkn
      have hz := hrw.frozen k
      rw [Mix_at] at hc
      have hv := and_wrap16 (prd 1 first R A k) (R k)
      rw [← Vs_prd] at hv
      have Hnx : Hid (prd 1 first R A (k + 1) = Vs 1 first R A k) := by show pF 1 _ _ _ = _; simp [pF]
      have hFr : F.answers wr.tape := by rw [hwr.tape]; exact hF
      have hff := HF.out k
      clear hall hrw hwr
      obtain ⟨vk, evk⟩ : ∃ x, x = Vs 1 first R A k := ⟨_, rfl⟩
      rw [← evk] at hv v0 v1 hff Hnx
      have Hvk : Hid _ := evk
      clear evk
      generalize hpk : prd 1 first R A k = pk at hv ⊢
      have Hpk : Hid _ := hpk
      clear hpk
      by_cases hfit : fitB b vk = true
      · have hl : decide (L < vk) = false := by
          simp only [decide_eq_false_iff_not]; rw [hff]; simp [hfit]
        clear hff
        go_wp2
        go_roundg (n - (k + 1))
        case measure => omega
        case rel =>
          refine ⟨k + 1, by omega, by go_num, by rw [Hnx.out], ?_, ?_, ?_⟩
          · intro j hj
            by_cases e : j = k
            · subst e; rw [← Hvk.out]; exact hfit
            · exact HA.out j (by omega)
          · rw [Hvk.out]; exact Mix_step HW.out
          · exact HT.out.trans (Wrote.setCell _ _ _ _)
      · have hfn : fitB b vk = false := by simpa using hfit
        have hl : decide (L < vk) = true := by
          simp only [decide_eq_true_eq]; rw [hff]; exact hfn
        have hkeep : fitB b (Vs 1 first R A k) = false := by rw [← Hvk.out]; exact hfn
        have Hk : Hid _ := hkeep
        clear hff hkeep
        go_wp2_with fail
        refine (large_any F _ _ _ hFr).mono ?_
        rintro e w' ⟨⟨ae, rfl⟩, hbl⟩
        go_wp2
        go_ret2
        exact ⟨k, ⟨by omega, HA.out, fun _ => Hk.out⟩, HW.out.of_block (hbl.block _ HW.out.lt), HT.out.trans (Wrote.of_below hbl), .inr ⟨hkn, _, rfl⟩⟩
    · obtain rfl : n = k := by omega
      have hd : decide ((n : Int) < (n : Int)) = false := by simp
      clear hall hrw hwr
      generalize hpk : prd 1 first R A n = pk
      clear hpk
      go_wp2
      go_ret2
      exact ⟨n, ⟨Nat.le_refl _, HA.out, fun h => absurd h (by omega)⟩, HW.out, HT.out, .inl ⟨rfl, rfl⟩⟩

/-- What v holds ahead of sample k, where the prediction is reckoned anew in each round. -/
def pv (sv first : Int) (R A : Nat → Int) : Nat → Int
  | 0 => first
  | k + 1 => Vs sv first R A k

set_option maxHeartbeats 1000000 in
theorem rec_other (F : Interp) (g h n m : Nat) (sv first b : Int) (R A : Nat → Int) (w : World) (hsv : (sv == 1) = false) (hb0 : 0 ≤ b) (hb1 : b ≤ 255) (hn : n ≤ 1048576) (hm : n ≤ m) (hF : F.answers w.tape) (hgh : h ≠ g)
    (hR : ∀ j, j < n → 0 ≤ R j ∧ R j ≤ 65535) (hA : ∀ j, 0 ≤ A j ∧ A j ≤ 65535) (hrow : w.rowIs g 24 n (fun j => .int .u16 (R j))) (habove : w.rowIs h 24 m (fun j => .int .u16 (A j))) :
    Calls Ybaf.prog 8 #[.slice (some ⟨g, 0, none⟩) n n, .slice (some ⟨h, 0, none⟩) m m, .int .i64 sv, .int .i64 first, .int .i64 b] w (RecEnd sv first b R A g n w) := by
  obtain ⟨L, hL⟩ : ∃ L, wrap64 (wrap64 (2 ^ min b.toNat 64) - 1) = L := ⟨_, rfl⟩
  have HF : Hid (∀ k, L < Vs sv first R A k ↔ fitB b (Vs sv first R A k) = false) := fun k => by
    rw [← hL]; exact limit_fit b _ hb0 hb1 (Vs_bd ..).1 (Vs_bd ..).2
  have HR : Hid _ := hR
  have HAA : Hid _ := hA
  have HAb : Hid _ := habove
  clear hR hA habove
  have Hst : Hid (w.rowIs g 24 n (Mix (Vs sv first R A) R 0)) := hrow.congr fun i _ => (Mix_zero _ _ _).symm
  clear hrow
  go_enter Ybaf.func8, Ybaf.ntmps8
  go_wp2
  go_loopg [13, 57] n (fun q v i wr => ∃ k : Nat, q + k = n ∧ i = .int .i64 k ∧ v = .int .i64 (pv sv first R A k) ∧ (∀ j, j < k → fitB b (Vs sv first R A j) = true) ∧ wr.rowIs g 24 n (Mix (Vs sv first R A) R k) ∧ Wrote g w wr)
  case atStart => exact ⟨0, by omega, rfl, rfl, fun j hj => absurd hj (by omega), Hst.out, Wrote.refl _ _⟩
  case round =>
    clear Hst
    obtain ⟨k, hk, rfl, rfl, hall, hrw, hwr⟩ := hrel
    have HA : Hid _ := hall
    have HW : Hid (wr.rowIs g 24 n (Mix (Vs sv first R A) R k)) := hrw
    have HT : Hid _ := hwr
    by_cases hkn : k < n
    · have hd : decide ((k : Int) < (n : Int)) = true := by simp; omega
      obtain ⟨r0, r1⟩ := HR.out k hkn
      obtain ⟨v0, v1⟩ := Vs_bd sv first R A k
      have hc := hrw.cell hkn
      have hz := hrw.frozen k
      rw [Mix_at] at hc
      have hv := and_wrap16 (prd sv first R A k) (R k)
      rw [← Vs_prd] at hv
      have hFr : F.answers wr.tape := by rw [hwr.tape]; exact hF
      have hff := HF.out k
      have hab := hwr.row HAb.out hgh
      clear hall hrw hwr
      obtain ⟨vk, evk⟩ : ∃ x, x = Vs sv first R A k := ⟨_, rfl⟩
      have Hnx : Hid (pv sv first R A (k + 1) = vk) := evk.symm
      rw [← evk] at hv v0 v1 hff
      have Hvk : Hid _ := evk
      clear evk
      have hkeep : fitB b vk = fitB b (Vs sv first R A k) := by rw [← Hvk.out]
      have Hk : Hid _ := hkeep
      clear hkeep
      have hend : ∀ wz : World, Below wr.heap.size wr wz → ∀ e ae, fitB b vk = false → e = .returned (.tuple #[.int .i64 k, .iface 74 (.pointer (some ae))]) → RecEnd sv first b R A g n w e wz :=
        fun wz hbl e ae hfn he => ⟨k, ⟨by omega, HA.out, fun _ => by rw [← Hk.out]; exact hfn⟩, HW.out.of_block (hbl.block _ HW.out.lt), HT.out.trans (Wrote.of_below hbl), .inr ⟨hkn, _, he⟩⟩
      have hnext : fitB b vk = true → ∀ wz : World, Below wr.heap.size wr wz → (∀ j, j < k + 1 → fitB b (Vs sv first R A j) = true) ∧ (wz.setCell ⟨g, k, none⟩ (.int .u16 vk)).rowIs g 24 n (Mix (Vs sv first R A) R (k + 1)) ∧ Wrote g w (wz.setCell ⟨g, k, none⟩ (.int .u16 vk)) := by
        intro hfit wz hbl
        refine ⟨fun j hj => ?_, ?_, ?_⟩
        · by_cases e : j = k
          · subst e; rw [← Hk.out]; exact hfit
          · exact HA.out j (by omega)
        · rw [Hvk.out]; exact Mix_step (HW.out.of_block (hbl.block _ HW.out.lt))
        · exact (HT.out.trans (Wrote.of_below hbl)).trans (Wrote.setCell _ _ _ _)
      have HE : Hid _ := hend
      have HN : Hid _ := hnext
      clear hend hnext
      by_cases hk0 : k = 0
      · subst hk0
        have hp0 : pv sv first R A 0 = first := rfl
        have hp1 : prd sv first R A 0 = first := rfl
        rw [hp0]
        rw [hp1] at hv
        clear hp0 hp1 hab
        by_cases hfit : fitB b vk = true
        · have hl : decide (L < vk) = false := by
            simp only [decide_eq_false_iff_not]; rw [hff]; simp [hfit]
          clear hff
          go_wp2
          go_roundg (n - (0 + 1))
          case measure => omega
          case rel =>
            obtain ⟨x1, x2, x3⟩ := HN.out hfit wr (Below.refl _ _)
            exact ⟨0 + 1, by omega, by go_num, by rw [Hnx.out], x1, x2, x3⟩
        · have hfn : fitB b vk = false := by simpa using hfit
          have hl : decide (L < vk) = true := by
            simp only [decide_eq_true_eq]; rw [hff]; exact hfn
          clear hff
          go_wp2_with fail
          refine (large_any F _ _ _ hFr).mono ?_
          rintro e w' ⟨⟨ae, rfl⟩, hbl⟩
          go_wp2
          go_ret2
          exact HE.out _ hbl _ ae hfn rfl
      · obtain ⟨k', rfl⟩ : ∃ k', k = k' + 1 := ⟨k - 1, by omega⟩
        have hp0 : pv sv first R A (k' + 1) = Vs sv first R A k' := rfl
        have hp1 : prd sv first R A (k' + 1) = pF sv (Vs sv first R A k') (A (k' + 1)) (A k') := rfl
        rw [hp0]
        rw [hp1] at hv
        clear hp0 hp1
        obtain ⟨u0, u1⟩ := Vs_bd sv first R A k'
        have ha := hab.cell (show k' + 1 < m by omega)
        have hb := hab.cell (show k' < m by omega)
        obtain ⟨a0, a1⟩ := HAA.out (k' + 1)
        obtain ⟨c0, c1⟩ := HAA.out k'
        clear hab
        generalize hpk : Vs sv first R A k' = pk at hv u0 u1 ⊢
        have Hpk : Hid _ := hpk
        clear hpk
        by_cases hfit : fitB b vk = true
        · have hl : decide (L < vk) = false := by
            simp only [decide_eq_false_iff_not]; rw [hff]; simp [hfit]
          clear hff
          go_wp2
          go_quiet ((go_at_call 13; exact Calls.quiet_of_same (predict_any _ _ _ _ _ (by omega) (by omega) (by omega) (by omega) (by omega) (by omega))))
          go_wp2
          go_roundg (n - (k' + 1 + 1))
          case measure => omega
          case rel =>
            obtain ⟨x1, x2, x3⟩ := HN.out hfit (wr.drewN _) (below_drewN (Below.refl _ _) _)
            exact ⟨k' + 1 + 1, by omega, by go_num, by rw [Hnx.out], x1, x2, x3⟩
        · have hfn : fitB b vk = false := by simpa using hfit
          have hl : decide (L < vk) = true := by
            simp only [decide_eq_true_eq]; rw [hff]; exact hfn
          clear hff
          go_wp2
          go_quiet ((go_at_call 13; exact Calls.quiet_of_same (predict_any _ _ _ _ _ (by omega) (by omega) (by omega) (by omega) (by omega) (by omega))))
          go_wp2_with fail
          refine (large_any F _ _ _ (by exact hFr)).mono ?_
          rintro e w' ⟨⟨ae, rfl⟩, hbl⟩
          go_wp2
          go_ret2
          exact HE.out _ (Below.trans (below_drewN (Below.refl _ _) _) hbl) _ ae hfn rfl
    · obtain rfl : n = k := by omega
      have hd : decide ((n : Int) < (n : Int)) = false := by simp
      clear hall hrw hwr
      generalize hpk : pv sv first R A n = pk
      clear hpk
      go_wp2
      go_ret2
      exact ⟨n, ⟨Nat.le_refl _, HA.out, fun h => absurd h (by omega)⟩, HW.out, HT.out, .inl ⟨rfl, rfl⟩⟩

set_option maxHeartbeats 400000 in
theorem ceq_same (g h n : Nat) (X : Nat → Int) (w : World) (hn : n ≤ 1048576) (hg : w.rowIs g 24 n (fun j => .int .u16 (X j))) (hh : w.rowIs h 24 n (fun j => .int .u16 (X j))) :
    Calls Ybaf.prog 9 #[.slice (some ⟨g, 0, none⟩) n n, .slice (some ⟨h, 0, none⟩) n n] w fun e w' => e = .returned (.bool true) ∧ ∃ q, w' = w.drewN q := by
  have HG : Hid (w.rowIs g 24 n (fun j => .int .u16 (X j))) := hg
  have HH : Hid (w.rowIs h 24 n (fun j => .int .u16 (X j))) := hh
  clear hg hh
  go_enter Ybaf.func9, Ybaf.ntmps9
  go_wp2
  go_loopg [5] n (fun q i wr => ∃ k : Nat, q + k = n ∧ i = .int .i64 k ∧ ∃ d, wr = w.drewN d)
  case atStart => exact ⟨0, by omega, rfl, 0, rfl⟩
  case round =>
    obtain ⟨k, hk, rfl, d, rfl⟩ := hrel
    by_cases hkn : k < n
    · have hd : decide ((k : Int) < (n : Int)) = true := by simp; omega
      have c0 : w.cell? ⟨g, k, none⟩ = some (.int .u16 (X k)) := HG.out.cell hkn
      have c1 : w.cell? ⟨h, k, none⟩ = some (.int .u16 (X k)) := HH.out.cell hkn
      go_wp2
      go_quiet (fail)
      go_wp2
      go_roundg (n - (k + 1))
      case measure => omega
      case rel => exact ⟨k + 1, by omega, by go_num, _, rfl⟩
    · obtain rfl : n = k := by omega
      have hd : decide ((n : Int) < (n : Int)) = false := by simp
      go_wp2
      go_ret
      exact ⟨rfl, _, rfl⟩

theorem rec_any (F : Interp) (g h n m : Nat) (sv first b : Int) (R A : Nat → Int) (w : World) (hb0 : 0 ≤ b) (hb1 : b ≤ 255) (hn : n ≤ 1048576) (hm : n ≤ m) (hF : F.answers w.tape) (hgh : h ≠ g)
    (hR : ∀ j, j < n → 0 ≤ R j ∧ R j ≤ 65535) (hA : ∀ j, 0 ≤ A j ∧ A j ≤ 65535) (hrow : w.rowIs g 24 n (fun j => .int .u16 (R j))) (habove : w.rowIs h 24 m (fun j => .int .u16 (A j))) :
    Calls Ybaf.prog 8 #[.slice (some ⟨g, 0, none⟩) n n, .slice (some ⟨h, 0, none⟩) m m, .int .i64 sv, .int .i64 first, .int .i64 b] w (RecEnd sv first b R A g n w) := by
  by_cases h1 : sv = 1
  · subst h1
    exact rec_one F g h n m first b R A w hb0 hb1 hn hF hR hrow
  · exact rec_other F g h n m sv first b R A w (by simpa using h1) hb0 hb1 hn hm hF hgh hR hA hrow habove
end Go.Proofs.YbulkdrlmFmt
