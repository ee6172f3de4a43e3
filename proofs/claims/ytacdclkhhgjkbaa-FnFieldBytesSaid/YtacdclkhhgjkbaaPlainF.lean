/-
  Plain lists of numbers: one field that holds no fields, whole and cut.
-/
import Derived.Test.YtacdclkhhgjkbaaVal
import Derived.Test.YtacdclkhhgjkbaaTree
import Derived.Test.YtacdclkhhgjkbaaPlainR
namespace Go.Proofs.Ytacdclkhhgjkbaa.va

/-- The bytes of a value of this type: read whole, and never where they are cut. -/
def Vb (kd : Nat) (X : List Nat) : Prop := pl.simple kd X = some X.length ∧ ∀ n, n < X.length → pl.simple kd (X.take n) = none
theorem vb0 (v : Nat) (h : v < 18446744073709551616) : Vb 0 (pl.enc v) := by
  have h1 := pl.rv_enc v [] h
  rw [List.append_nil] at h1
  exact ⟨by simp [pl.simple, h1], fun n hn => by simp [pl.simple, pl.rv_enc_cut v n hn]⟩
theorem vb5 (v : Nat) : Vb 5 (pl.fix v 4) := by
  have h := pl.fix_len v 4
  exact ⟨by simp [pl.simple, h], fun n hn => by simp [pl.simple, h]; omega⟩
theorem vb1 (v : Nat) : Vb 1 (pl.fix v 8) := by
  have h := pl.fix_len v 8
  exact ⟨by simp [pl.simple, h], fun n hn => by simp [pl.simple, h]; omega⟩
theorem vb2 (data : List Nat) (h : data.length < 18446744073709551616) : Vb 2 (pl.enc data.length ++ data) := by
  have h1 := pl.rbytes_enc data [] h
  rw [List.append_nil] at h1
  exact ⟨by simp [pl.simple, h1], fun n hn => by simp [pl.simple, pl.rbytes_cut data n h hn]⟩
theorem F_whole (a kd : Nat) (X : List Nat) (h1 : 1 ≤ a) (h2 : a ≤ 536870911) (hk : kd < 8) (h3 : kd ≠ 3) (hX : Vb kd X) : F (pl.enc (a * 8 + kd) ++ X) = some (a, kd, (pl.enc (a * 8 + kd) ++ X).length) := by
  have ht := pl.rtag_enc a kd X h1 (by omega) hk
  rw [F_tag ht, show (pl.enc (a * 8 + kd) ++ X).drop (pl.enc (a * 8 + kd)).length = X by simp, pl.V_simple _ _ _ _ h3, hX.1]
  simp
theorem F_cut (a kd : Nat) (X : List Nat) (h1 : 1 ≤ a) (h2 : a ≤ 536870911) (hk : kd < 8) (h3 : kd ≠ 3) (hX : Vb kd X) (n : Nat) (hn : n < (pl.enc (a * 8 + kd) ++ X).length) : F ((pl.enc (a * 8 + kd) ++ X).take n) = none := by
  rcases Nat.lt_or_ge n (pl.enc (a * 8 + kd)).length with h | h
  · rw [List.take_append_of_le_length (by omega)]
    exact F_none (pl.rtag_cut a kd n h)
  · obtain ⟨m, rfl⟩ : ∃ m, n = (pl.enc (a * 8 + kd)).length + m := ⟨n - (pl.enc (a * 8 + kd)).length, by omega⟩
    have ht := pl.rtag_enc a kd (X.take m) h1 (by omega) hk
    rw [List.length_append] at hn
    rw [List.take_length_add_append, F_tag ht, show (pl.enc (a * 8 + kd) ++ X.take m).drop (pl.enc (a * 8 + kd)).length = X.take m by simp, pl.V_simple _ _ _ _ h3, hX.2 m (by omega)]
    rfl
end Go.Proofs.Ytacdclkhhgjkbaa.va
