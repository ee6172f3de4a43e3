/-
  A byte stored into a row of the call's own.
-/
import Derived.Test.YthjflhpgfbnobaaMem
import Derived.Laws.OwnMore
namespace Go.Proofs.Ythjflhpgfbnobaa.mem
open Go.RowKit
set_option linter.unusedVariables false

section
variable {w : World} {base : Nat} {e : TypeId} {v : Value} {bs : List Nat}
theorem Own.shape (h : Own w base e v bs) (hp : 0 < bs.length) : ∃ g c, v = .slice (some ⟨g, 0, none⟩) bs.length c ∧ base ≤ g ∧ g < w.heap.size := by
  obtain ⟨hb, hm, hown⟩ := h
  rcases hown.2 with ⟨rfl, h0⟩ | ⟨g, cap, cur, rfl, hbase, hg, hnc, hcm, hcs, htake⟩
  · omega
  · exact ⟨g, cap, rfl, hbase, (Array.getElem?_eq_some_iff.1 hg).1⟩
theorem Own.stores {g c n : Nat} (h : Own w base e (.slice (some ⟨g, 0, none⟩) n c) bs) (j : Nat) (hj : j < bs.length) :
    w.cell? ⟨g, j, none⟩ = some (bv (bs.getD j 0)) ∧ w.frozen? ⟨g, j, none⟩ = false ∧ ∀ x, x < 256 → Own (w.setCell ⟨g, j, none⟩ (bv x)) base e (.slice (some ⟨g, 0, none⟩) n c) (bs.set j x) := by
  obtain ⟨hb, hm, hown⟩ := h
  rcases hown.2 with ⟨h', _⟩ | ⟨g', cap', cur, h', hbase, hg, hnc, hcm, hcs, htake⟩
  · simp at h'
  · simp only [Value.slice.injEq, Option.some.injEq, Addr.mk.injEq, and_true] at h'
    obtain ⟨rfl, hn, rfl⟩ := h'
    subst hn
    refine ⟨?_, frozen_of_row w g j cur e hg, fun x hx => ⟨?_, by simpa using hm, ?_⟩⟩
    · have := hown.cells (g := g) rfl j (bv (bs.getD j 0)) (by rw [List.getElem?_map, List.getElem?_eq_getElem hj, List.getD_eq_getElem?_getD, List.getElem?_eq_getElem hj]; rfl)
      rwa [add_none, Nat.zero_add] at this
    · intro b hb'
      rcases List.mem_or_eq_of_mem_set hb' with h1 | h1
      · exact hb b h1
      · omega
    · have := (hown.stored j (bv x)).1
      rw [List.length_set, List.map_set]
      exact this
end
end Go.Proofs.Ythjflhpgfbnobaa.mem
