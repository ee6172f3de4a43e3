/-
  Plain lists of numbers: the bytes of a number, padded.
-/
import Derived.Test.YthjflhpgfbnobaaPlainS
namespace Go.Proofs.Ythjflhpgfbnobaa.pl

theorem encF_split (k v : Nat) (h : v < 2 * 128 ^ k) : ∃ init last, encF k v = init ++ [last] ∧ (∀ b ∈ init, 128 ≤ b ∧ b < 256) ∧ last < 128 ∧ val (init ++ [last]) = v := by
  induction k generalizing v with
  | zero =>
    have : v < 2 := by simpa using h
    exact ⟨[], v, rfl, by simp, by omega, by simp [val]; omega⟩
  | succ k ih =>
    by_cases hv : v < 128
    · exact ⟨[], v, by rw [encF, if_pos hv]; rfl, by simp, hv, by simp [val]; omega⟩
    · rw [Nat.pow_succ] at h
      obtain ⟨init, last, h1, h2, h3, h4⟩ := ih (v / 128) (by omega)
      refine ⟨(v % 128 + 128) :: init, last, by rw [encF, if_neg hv, h1]; rfl, ?_, h3, ?_⟩
      · intro b hb
        rcases List.mem_cons.1 hb with rfl | hb
        · omega
        · exact h2 b hb
      · rw [List.cons_append, val, h4]
        omega
theorem enc_split (v : Nat) (h : v < 18446744073709551616) : ∃ init last, enc v = init ++ [last] ∧ (∀ b ∈ init, 128 ≤ b ∧ b < 256) ∧ last < 128 ∧ val (init ++ [last]) = v := encF_split 9 v (by omega)
theorem val_mod (l : List Nat) (a b : Nat) (h : a % 128 = b % 128) : val (l ++ [a]) = val (l ++ [b]) := by
  induction l with
  | nil => simp [val, h]
  | cons x l ih => simp only [List.cons_append, val, ih]
theorem or_top (x : Nat) (h : x < 128) : x ||| 128 = x + 128 := by
  have := Nat.two_pow_add_eq_or_of_lt (i := 7) (b := x) (by omega) 1
  change 128 + x = 128 ||| x at this
  rw [Nat.or_comm]
  omega
/-- A number with its last byte's top bit set, k more bytes 128, and a 0, is the number. -/
theorem rv_pad (init : List Nat) (last k v : Nat) (h1 : ∀ b ∈ init, 128 ≤ b ∧ b < 256) (h2 : last < 128) (h3 : val (init ++ [last]) = v) (h4 : init.length + 2 + k ≤ 10) :
    rv 10 ((init ++ [last ||| 128] ++ List.replicate k 128) ++ [0]) = some (v, init.length + 2 + k) := by
  rw [or_top last h2, rv_of 10 _ 0 [] ?_ (by omega) (by simp; omega) (by omega)]
  · rw [List.append_assoc, val_zero _ _ (by
      intro b hb
      rcases List.mem_append.1 hb with hb | hb
      · rw [(List.mem_replicate.1 hb).2]
      · simp at hb; omega), val_mod init (last + 128) last (by omega), h3]
    simp; omega
  · intro b hb
    rcases List.mem_append.1 hb with hb | hb
    · rcases List.mem_append.1 hb with hb | hb
      · exact h1 b hb
      · simp at hb; omega
    · rw [(List.mem_replicate.1 hb).2]; omega
end Go.Proofs.Ythjflhpgfbnobaa.pl
