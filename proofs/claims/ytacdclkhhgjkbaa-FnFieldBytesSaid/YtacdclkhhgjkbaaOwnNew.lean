/-
  A new row of bytes, and a field's tag that names no field.
-/
import Derived.Test.YtacdclkhhgjkbaaMem
import Derived.Test.YtacdclkhhgjkbaaPlainG
namespace Go.Proofs.Ytacdclkhhgjkbaa.mem
open Go.RowKit
set_option linter.unusedVariables false

theorem Own.new (w : World) (base : Nat) (t : TypeId) (cs : Array Value) (news : List Nat) (hbase : base ≤ w.heap.size) (hb : ∀ b ∈ news, b < 256) (hm : news.length ≤ maxLen) (h : cs = (news.map bv).toArray) :
    Own (w.alloc (.cells cs t)) base t (.slice (some ⟨w.heap.size, 0, none⟩) news.length news.length) news := by
  subst h
  refine ⟨hb, hm, by simp, .inr ⟨w.heap.size, news.length, (news.map bv).toArray, rfl, hbase, ?_, Nat.le_refl _, hm, by simp, ?_⟩⟩
  · exact heap_alloc_new w _
  · simp [List.take_of_length_le]
theorem rtag_zero (kd : Nat) (ms : List Nat) (h : kd < 8) : pl.rtag (kd :: ms) = none := by
  have : pl.rv 10 (kd :: ms) = some (kd, 1) := by
    rw [pl.rv, if_pos (by omega), if_neg (by omega)]
  unfold pl.rtag
  rw [this]
  simp only
  rw [if_pos (by omega)]
end Go.Proofs.Ytacdclkhhgjkbaa.mem
