/-
  (*Chunk).value at "tag" and (*Chunk).Tag by their contracts.
-/
import Derived.Test.YbulkdrmaMem
import Derived.Deep.LoopGhost
namespace Go.Proofs.Ybulkdrma
open Go.RowKit

/-- Is it the text "tag"? -/
def isTag (s : ByteArray) : Bool := s.toList == [116, 97, 103]

/-- i: the first of n that is named "tag"; n where none is. -/
structure FirstTag (K : Nat → ByteArray) (m n i : Nat) : Prop where
  ge : m ≤ i
  le : i ≤ n
  none : ∀ j, m ≤ j → j < i → isTag (K j) = false
  tag : i < n → isTag (K i) = true

theorem FirstTag.uniq {K : Nat → ByteArray} {m n i i' : Nat} (h : FirstTag K m n i) (h' : FirstTag K m n i') : i = i' := by
  rcases Nat.lt_trichotomy i i' with hl | he | hg
  · have h1 := h'.none i h.ge hl
    have h2 := h.tag (by have := h'.le; omega)
    rw [h1] at h2; cases h2
  · exact he
  · have h1 := h.none i' h'.ge hg
    have h2 := h'.tag (by have := h.le; omega)
    rw [h1] at h2; cases h2

set_option maxHeartbeats 400000 in
theorem value_tag (CB KV n : Nat) (G : Nat → Nat) (K : Nat → ByteArray) (w : World) (hn : n ≤ 1048576) (hv : w.cell? ⟨CB, 8, none⟩ = some (.slice (some ⟨KV, 0, none⟩) n n))
    (hk : Hid (∀ i, i < n → w.cell? ⟨KV, i * 6, none⟩ = some (.pointer (some ⟨G i, 0, none⟩)) ∧ w.cell? ⟨G i, 0, none⟩ = some (.string (K i)))) :
    Calls Yba.prog 6 #[.pointer (some ⟨CB, 0, none⟩), .string ⟨#[116, 97, 103]⟩] w fun e w' => (∃ i, FirstTag K 0 n i ∧ ((i < n ∧ e = .returned (.pointer (some ⟨KV, i * 6, none⟩))) ∨ (i = n ∧ e = .returned (.pointer none)))) ∧ w' = w := by
  go_enter Yba.func6, Yba.ntmps6
  go_wp2
  go_loopg [11] n (fun q v wr => ∃ k : Nat, q + k = n ∧ v = .int .i64 k ∧ (∀ j, j < k → isTag (K j) = false) ∧ w = wr)
  case atStart => exact ⟨0, by omega, rfl, fun j hj => absurd hj (by omega), rfl⟩
  case round =>
    obtain ⟨k, hk0, rfl, hall, rfl⟩ := hrel
    have HA : Hid (∀ j, j < k → isTag (K j) = false) := hall
    clear hall
    by_cases hkn : k < n
    · have hd : decide ((k : Int) < (n : Int)) = true := by simp; omega
      obtain ⟨c0, c1⟩ := hk.out k hkn
      cases ht : isTag (K k)
      · have htt : ((K k).toList == [116, 97, 103]) = false := ht
        have HT : Hid (isTag (K k) = false) := ht
        clear ht
        go_wp2
        go_roundg (n - (k + 1))
        case measure => omega
        case rel => exact ⟨k + 1, by omega, by go_num, fun j hj => by
          by_cases e : j = k
          · subst e; exact HT.out
          · exact HA.out j (by omega), rfl⟩
      · have htt : ((K k).toList == [116, 97, 103]) = true := ht
        have HT : Hid (isTag (K k) = true) := ht
        clear ht
        go_wp2
        go_ret
        exact ⟨⟨k, ⟨by omega, by omega, fun j _ hj => HA.out j hj, fun _ => HT.out⟩, .inl ⟨hkn, rfl⟩⟩, rfl⟩
    · obtain rfl : n = k := by omega
      have hd : decide ((n : Int) < (n : Int)) = false := by simp
      go_wp2
      go_ret
      exact ⟨⟨n, ⟨by omega, by omega, fun j _ hj => HA.out j hj, fun h => absurd h (by omega)⟩, .inr ⟨rfl, rfl⟩⟩, rfl⟩

set_option maxHeartbeats 400000 in
theorem tag_any (CB KV n : Nat) (G : Nat → Nat) (K X : Nat → ByteArray) (w : World) (hn : n ≤ 1048576) (hv : w.cell? ⟨CB, 8, none⟩ = some (.slice (some ⟨KV, 0, none⟩) n n))
    (hk : Hid (∀ i, i < n → w.cell? ⟨KV, i * 6, none⟩ = some (.pointer (some ⟨G i, 0, none⟩)) ∧ w.cell? ⟨G i, 0, none⟩ = some (.string (K i)))) (hx : Hid (∀ i, i < n → w.cell? ⟨KV, i * 6 + 1, none⟩ = some (.string (X i)))) :
    Calls Yba.prog 5 #[.pointer (some ⟨CB, 0, none⟩)] w fun e w' => (∃ i, FirstTag K 0 n i ∧ ((i < n ∧ e = .returned (.tuple #[.string (X i), .bool true])) ∨ (i = n ∧ e = .returned (.tuple #[.string ⟨#[]⟩, .bool false])))) ∧ w' = w := by
  go_enter Yba.func5, Yba.ntmps5
  go_wp2_with fail
  refine (value_tag CB KV n G K w hn hv hk).mono ?_
  rintro e w' ⟨⟨i, hf, hcase⟩, rfl⟩
  rcases hcase with ⟨hi, rfl⟩ | ⟨rfl, rfl⟩
  · have c := hx.out i hi
    go_wp2
    go_ret2
    exact ⟨⟨i, hf, .inl ⟨hi, rfl⟩⟩, rfl⟩
  · go_wp2
    go_ret2
    exact ⟨⟨i, hf, .inr ⟨rfl, rfl⟩⟩, rfl⟩
end Go.Proofs.Ybulkdrma
