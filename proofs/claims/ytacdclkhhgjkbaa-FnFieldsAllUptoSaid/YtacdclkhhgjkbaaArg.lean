/-
  A []byte argument, as the rows' shells hand it over, read as a list of numbers.
-/
import Derived.Test.YtacdclkhhgjkbaaMem
import Derived.ProofKit
import Derived.OpenShut
namespace Go.Proofs.Ytacdclkhhgjkbaa.mem
open Go.RowKit

/-- What the shells' 'IsRow' says of a []byte, as 'Rd'. -/
theorem rd_of_row {w : World} {a : Option Addr} {len cap : Nat} {zs : List Int}
    (h : (a = none ∧ len = 0 ∧ cap = 0 ∧ zs = []) ∨ ∃ x, a = some x ∧ len ≤ cap ∧ cap ≤ maxLen ∧ zs.length = cap ∧ (∀ i, i < zs.length → w.cell? (x.add i) = some (.int .u8 (zs.getD i 0))) ∧ ∀ n ∈ zs, (Lit.int .u8 n).wf = true) :
    ∃ bs : List Nat, bs.length = len ∧ len ≤ cap ∧ cap ≤ maxLen ∧ Rd w w.heap.size a bs := by
  rcases h with ⟨rfl, rfl, rfl, rfl⟩ | ⟨x, rfl, hl, hm, hz, hcell, hwf⟩
  · exact ⟨[], rfl, Nat.le_refl _, by simp [maxLen], Rd.nil_ _ _ _⟩
  · refine ⟨(zs.take len).map Int.toNat, by simp; omega, hl, hm, ?_, ?_⟩
    · intro b hb
      obtain ⟨z, hz1, rfl⟩ := List.mem_map.1 hb
      have := bounds_u8 (hwf z (List.mem_of_mem_take hz1))
      omega
    · intro hn
      have hpos : 0 < zs.length := by simp at hn; omega
      refine ⟨x, rfl, ?_, fun j hj => ?_⟩
      · have := World.block_lt_of_cell? _ _ (hcell 0 hpos)
        rwa [block_of_add] at this
      · have hj' : j < len ∧ j < zs.length := by simp at hj; omega
        rw [hcell j hj'.2]
        unfold bv
        rw [List.getD_eq_getElem?_getD, List.getD_eq_getElem?_getD, List.getElem?_map, List.getElem?_take, if_pos hj'.1, List.getElem?_eq_getElem hj'.2]
        have := bounds_u8 (hwf zs[j] (List.getElem_mem hj'.2))
        simp
        omega

/-- The same, of numbers that are known: these are what is read. -/
theorem rd_of_zs {w : World} (x : Addr) (len cap : Nat) (zs : List Int) (hl : len ≤ cap) (hz : zs.length = cap) (hcell : ∀ i, i < zs.length → w.cell? (x.add i) = some (.int .u8 (zs.getD i 0))) (hwf : ∀ n ∈ zs, (Lit.int .u8 n).wf = true) :
    Rd w w.heap.size (some x) ((zs.take len).map Int.toNat) := by
  refine ⟨?_, ?_⟩
  · intro b hb
    obtain ⟨z, hz1, rfl⟩ := List.mem_map.1 hb
    have := bounds_u8 (hwf z (List.mem_of_mem_take hz1))
    omega
  · intro hn
    have hpos : 0 < zs.length := by simp at hn; omega
    refine ⟨x, rfl, ?_, fun j hj => ?_⟩
    · have := World.block_lt_of_cell? _ _ (hcell 0 hpos)
      rwa [block_of_add] at this
    · have hj' : j < len ∧ j < zs.length := by simp at hj; omega
      rw [hcell j hj'.2]
      unfold bv
      rw [List.getD_eq_getElem?_getD, List.getD_eq_getElem?_getD, List.getElem?_map, List.getElem?_take, if_pos hj'.1, List.getElem?_eq_getElem hj'.2]
      have := bounds_u8 (hwf zs[j] (List.getElem_mem hj'.2))
      simp
      omega

/-- Two strings are one: what is written, and what is put together. -/
theorem str_cat (a b : List Nat) : ((str (a ++ b)).toList == (str a ++ str b).toList) = true := by
  rw [str_append]
  simp
theorem str_cat3 (a b c : List Nat) : ((str (a ++ (b ++ c))).toList == (str a ++ str b ++ str c).toList) = true := by
  rw [str_append, str_append, List.append_assoc]
  simp

end Go.Proofs.Ytacdclkhhgjkbaa.mem
