/-
  Contracts of the functions that tell sizes.
-/
import Derived.Test.YtacdclkhhgjkbaaPure
import Derived.Test.YtacdclkhhgjkbaaPlainS
import Derived.Test.YtacdclkhhgjkbaaLen64
import Derived.WalkKit
namespace Go.Proofs.Ytacdclkhhgjkbaa.sz
open Go.RowKit
set_option linter.unusedVariables false

theorem aux_iff (f x k : Nat) (h : x < 2 ^ f) (hk : k ≤ f) : Lib.bitLenAux f x ≤ k ↔ x < 2 ^ k := by
  induction f generalizing x k with
  | zero =>
    obtain rfl : k = 0 := by omega
    simp [Lib.bitLenAux]
    simpa using h
  | succ f ih =>
    rw [Lib.bitLenAux]
    by_cases hx : x = 0
    · subst hx
      simp
      exact Nat.pow_pos (by decide)
    · rw [if_neg hx]
      cases k with
      | zero => simp; omega
      | succ k =>
        have := ih (x / 2) k (by rw [Nat.pow_succ] at h; omega) (by omega)
        rw [Nat.pow_succ]
        omega
theorem len_iff (x k : Nat) (h : x < 18446744073709551616) (hk : k ≤ 64) : Lib.bitLen x ≤ k ↔ x < 2 ^ k := aux_iff 64 x k (by omega) hk

theorem or_one (v : Nat) : v ||| 1 = if v % 2 = 0 then v + 1 else v := by
  have h1 : v ||| 1 = 2 * (v / 2) + 1 := by
    apply Nat.eq_of_testBit_eq
    intro i
    rw [Nat.testBit_or]
    cases i with
    | zero => simp
    | succ i =>
      rw [Nat.testBit_succ, Nat.testBit_succ, Nat.testBit_succ, show (2 * (v / 2) + 1) / 2 = v / 2 by omega]
      simp
  rw [h1]
  split <;> omega

theorem seven (l j : Nat) (hl : 1 ≤ l) (hl2 : l ≤ 64) (hj : j < 9) : ((l - 1) * 9 + 73) / 64 ≤ j + 1 ↔ l ≤ 7 * (j + 1) := by omega

theorem size_eq (v : Nat) (hv : v < 18446744073709551616) : 1 ≤ Lib.bitLen (v ||| 1) ∧ Lib.bitLen (v ||| 1) ≤ 64 ∧ ((Lib.bitLen (v ||| 1) - 1) * 9 + 73) / 64 = (pl.enc v).length := by
  have ho := or_one v
  have hlt : v ||| 1 < 18446744073709551616 := by rw [ho]; split <;> omega
  have h64 := (len_iff (v ||| 1) 64 hlt (by decide)).2 (by omega)
  have h0 : ¬ Lib.bitLen (v ||| 1) ≤ 0 := fun h => by
    have := (len_iff (v ||| 1) 0 hlt (by decide)).1 h
    rw [ho] at this
    simp at this
    split at this <;> omega
  have key : ∀ j, j < 9 → (((Lib.bitLen (v ||| 1) - 1) * 9 + 73) / 64 ≤ j + 1 ↔ (pl.enc v).length ≤ j + 1) := by
    intro j hj
    have e1 := seven (Lib.bitLen (v ||| 1)) j (by omega) h64 hj
    have e2 := len_iff (v ||| 1) (7 * (j + 1)) hlt (by omega)
    have e3 := pl.len_le_iff 9 j v hj
    have e4 : (128 : Nat) ^ (j + 1) = 2 ^ (7 * (j + 1)) := by rw [Nat.pow_mul]
    have e5 : v ||| 1 < 2 ^ (7 * (j + 1)) ↔ v < 2 ^ (7 * (j + 1)) := by
      have e6 : 2 ^ (7 * (j + 1)) = 2 * 2 ^ (7 * j + 6) := by rw [show 7 * (j + 1) = (7 * j + 6) + 1 by omega, Nat.pow_succ, Nat.mul_comm]
      rw [ho]
      split <;> omega
    unfold pl.enc
    rw [e1, e2, e5, e3, e4]
  have hp := pl.enc_len_pos v
  have hq := pl.enc_len_le v
  generalize Lib.bitLen (v ||| 1) = l at *
  refine ⟨by omega, h64, ?_⟩
  rcases Nat.lt_or_ge (pl.enc v).length 10 with h | h
  · have k1 := (key ((pl.enc v).length - 1) (by omega)).2 (by omega)
    rcases Nat.lt_or_ge (pl.enc v).length 2 with h2 | h2
    · omega
    · have k2 := key ((pl.enc v).length - 2) (by omega)
      omega
  · have k2 := key 8 (by omega)
    omega

theorem xor63 : ∀ y : Fin 64, bits .xor .u32 (y.val : Int) 63 = 63 - (y.val : Int) := by decide +kernel
theorem or1 (x : Int) (h0 : 0 ≤ x) (h1 : x < 18446744073709551616) : bits .or .u64 x 1 = ((x.toNat ||| 1 : Nat) : Int) := by
  obtain ⟨n, rfl⟩ := Int.eq_ofNat_of_zero_le h0
  have := (bits_nat .u64 64 (by decide) bt.wraps64 n 1 (by omega) (by decide)).2
  simpa using this

theorem lz64 (x : Int) (w : World) (h0 : 0 ≤ x) (h1 : x ≤ 18446744073709551615) (h2 : Lib.bitLen x.toNat ≤ 64) :
    Calls Try.prog 44 #[.int .u64 x] w fun e w' => e = .returned (.int .i64 (64 - (Lib.bitLen x.toNat : Int))) ∧ w = w' := by
  generalize hl : Lib.bitLen x.toNat = l at *
  have K := bt.hide (len64 x w h0 h1)
  rw [hl] at K
  clear hl
  go_enter Try.func44, Try.ntmps44
  go_wp2_with fail
  refine (K.out).mono ?_
  rintro e w' ⟨rfl, hw⟩
  subst hw
  go_wp2_with fail
  go_ret
  exact ⟨rfl, rfl⟩

theorem wsv (x : Int) (w : World) (h0 : 0 ≤ x) (h1 : x < 18446744073709551616) :
    Calls Try.prog 39 #[.int .u64 x] w fun e w' => e = .returned (.int .i64 ((pl.enc x.toNat).length : Nat)) ∧ w = w' := by
  obtain ⟨s1, s2, s3⟩ := size_eq x.toNat (by omega)
  have ho := or1 x h0 h1
  have hon : (((x.toNat ||| 1 : Nat) : Int)).toNat = x.toNat ||| 1 := Int.toNat_natCast _
  have hob : x.toNat ||| 1 < 18446744073709551616 := by rw [or_one]; split <;> omega
  generalize x.toNat ||| 1 = y at *
  generalize (pl.enc x.toNat).length = s at *
  generalize hl : Lib.bitLen y = l at *
  have K := bt.hide (lz64 (y : Int) w (by omega) (by omega) (by rw [hon, hl]; exact s2))
  rw [hon, hl] at K
  have hx63 := xor63 ⟨64 - l, by omega⟩
  simp only at hx63
  rw [show ((64 - l : Nat) : Int) = 64 - (l : Int) by omega] at hx63
  have HF := bt.hide (show ((63 - (64 - (l : Int))) * 9 + 73) / 64 = (s : Int) by omega)
  have b1 : (0 : Int) ≤ 63 - (64 - (l : Int)) := by omega
  clear s3 hl hon hob
  go_enter Try.func39, Try.ntmps39
  go_wp2_with fail
  refine (K.out).mono ?_
  rintro e w' ⟨rfl, rfl⟩
  go_wp2_with fail
  go_ret
  exact ⟨by rw [← HF.out]; rfl, rfl⟩
end Go.Proofs.Ytacdclkhhgjkbaa.sz
