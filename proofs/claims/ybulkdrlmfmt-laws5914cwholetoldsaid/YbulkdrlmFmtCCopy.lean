/-
  'copy(dst, src)', dst a whole row of the call's own, src as long as it: a law for the walk.
-/
import Derived.Test.YbulkdrlmFmtCPlain
import Derived.Laws.CopyOwn
namespace Go.Proofs.YbulkdrlmFmt
open Go.RowKit Go.Deep

theorem wrote_setRow (g : Nat) (w : World) (c : Array Value) : Wrote g w (w.setRow g c) :=
  ⟨rfl, rfl, rfl, by simp [World.setRow], fun k _ hk => setRow_other w g k c (by omega)⟩

theorem rowIs_setRow {w : World} {g : Nat} {t : TypeId} {n : Nat} {f0 f : Nat → Value} (h : w.rowIs g t n f0) : (w.setRow g ((List.range n).map f).toArray).rowIs g t n f := by
  obtain ⟨c, hb, hn, _⟩ := h
  exact ⟨_, setRow_heap w g c _ t _ hb, by simp, fun i hi => by simp [hi]⟩

theorem wpList_copy_rows {P : Program} {w : World} {ops : Array Oper} {rest : List Oper} {o : Oper} {a : Act} {Q : Exit → Act → World → Prop} (hgd : o.guard = none) (d s : Operand) (dT sT : TypeId)
    (ho : o.op = .call { callee := .builtin .copy, args := #[d, s], argTypes := #[dT, sT] }) (elem : TypeId) (hu : P.underlying dT = some (.slice elem)) (hsz : (P.info? elem).map (·.size) = some 1)
    (g n dCap : Nat) (sp : Option Addr) (sCap : Nat) (hd : a.eval d = .slice (some ⟨g, 0, none⟩) n dCap) (hs : a.eval s = .slice sp n sCap)
    (t : TypeId) (f0 f : Nat → Value) (hg : w.rowIs g t n f0) (hsrc : ∀ j, j < n → ∃ ad, sp = some ad ∧ w.cell? (ad.add j) = some (f j)) (h1 : ∀ j, j < n → (f j).oneCell' = true)
    (h : ∀ w', w'.rowIs g t n f → Wrote g w w' → w'.heap.size = w.heap.size → wpList P ops Q rest (a.put o.dst (goInt n)) w') : wpList P ops Q (o :: rest) a w := by
  by_cases h0 : n = 0
  · subst h0
    exact wpList_copy_nothing hgd d s dT sT ho elem hu hsz _ _ 0 dCap 0 sCap hd hs rfl (h w (hg.congr fun i hi => absurd hi (by omega)) (Wrote.refl _ _) rfl)
  · obtain ⟨ad, rfl, _⟩ := hsrc 0 (by omega)
    have hg' := hg
    obtain ⟨c, hb, hn, _⟩ := hg'
    refine wpList_copy_own hgd d s dT sT ho elem hu hsz g 0 n dCap ad n sCap hd hs c t hb ((List.range n).map f) (by simp) (fun j v hj => ?_) (by simp [hn]) (fun v hv => ?_) ?_
    · simp only [List.getElem?_map, Option.map_eq_some_iff] at hj
      obtain ⟨j', hj', rfl⟩ := hj
      obtain ⟨hlt, rfl⟩ := List.getElem?_eq_some_iff.1 hj'
      simp at hlt
      obtain ⟨ad', e, hc⟩ := hsrc j hlt
      cases e
      simpa using hc
    · simp only [List.mem_map, List.mem_range] at hv
      obtain ⟨j, hj, rfl⟩ := hv
      exact h1 j hj
    · have e1 : (c.toList.take 0 ++ ((List.range n).map f ++ c.toList.drop (0 + ((List.range n).map f).length))) = (List.range n).map f := by
        have : c.toList.drop (0 + ((List.range n).map f).length) = [] := List.drop_eq_nil_of_le (by simp [hn])
        rw [this]; simp
      rw [e1]
      have e2 : ((List.range n).map f).length = n := by simp
      rw [e2]
      exact h _ (rowIs_setRow hg) (wrote_setRow _ _ _) (by simp [World.setRow])
end Go.Proofs.YbulkdrlmFmt
