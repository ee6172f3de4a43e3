/-
  A slice between two places, and where read bytes lie.
-/
import Derived.Test.YthjflhpgfbnobaaCons4
namespace Go.Proofs.Ythjflhpgfbnobaa.mem
open Go.RowKit

theorem run_between {P : Program} {t e : TypeId} {i : TypeInfo} (ht : P.underlying t = some (.slice e)) (hi : P.info? e = some i) (h1 : i.size = 1) (A : Option Addr) (n c k m : Nat) (hk : k ≤ m) (hm : m ≤ c) (kl : IntKind) (w : World) :
    (Instr.slice t (.slice A n c) (some (.int kl (k : Int))) (some (.int kl (m : Int))) none).run P w = .ok (.slice (cutA A c k) (m - k) (c - k)) w := by
  have he : P.elem t = e := by simp [Program.elem, ht]
  rw [run_slice_lh w t A n c (by rw [he]; exact ht) kl kl k m (by omega) (by omega) (by omega), he]
  simp [sizeOf, typeInfo, hi, h1, sliced, cutA]
theorem rbytes_le {bs : List Nat} {a e : Nat} (h : pl.rbytes bs = some (a, e)) : a ≤ e ∧ e ≤ bs.length := by
  obtain ⟨v, hv, hle, he⟩ := co.rbytes_some h
  have := pl.rv_some_len 10 bs v a hv
  omega
end Go.Proofs.Ythjflhpgfbnobaa.mem
