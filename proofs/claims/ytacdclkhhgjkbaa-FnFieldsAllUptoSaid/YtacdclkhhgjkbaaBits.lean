/-
  Bits as numbers, over no program: zig-zag, a tag's bits, digits to the base 128.
-/
import Derived.WalkKit
import Derived.Laws.Bits64
import Derived.Laws.BitsLemmas
namespace Go.Proofs.Ytacdclkhhgjkbaa.bt
open Go.RowKit

/-- The number that a zig-zag code stands for. -/
def unzig (x : Int) : Int := if x % 2 = 0 then x / 2 else -(x / 2) - 1
/-- A number's zig-zag code. -/
def zig (x : Int) : Int := if 0 ≤ x then 2 * x else -2 * x - 1

theorem hide {p : Prop} (h : p) : Hid p := h

theorem ones_xor (b : Nat) (hb : b < 2 ^ 64) : (2 ^ 64 - 1) ^^^ b = 2 ^ 64 - 1 - b := by
  apply Nat.eq_of_testBit_eq
  intro i
  rw [Nat.testBit_xor, Nat.testBit_two_pow_sub_one, show 2 ^ 64 - 1 - b = 2 ^ 64 - (b + 1) by omega, Nat.testBit_two_pow_sub_succ hb]
  by_cases hi : i < 64
  · simp [hi]
  · have : b.testBit i = false := Nat.testBit_lt_two_pow (Nat.lt_of_lt_of_le hb (Nat.pow_le_pow_right (by decide) (by omega)))
    simp [hi, this]

theorem wraps64 (n : Int) (h0 : 0 ≤ n) (h1 : n < 2 ^ 64) : IntKind.u64.wrap n = n := by rw [IntKind.wrap_u64]; omega

theorem wrap64_eq (n : Int) : wrap64 n = (n + 9223372036854775808) % 18446744073709551616 - 9223372036854775808 := by
  simp only [wrap64]

theorem xor_i64_zero (a : Nat) (ha : a < 9223372036854775808) : bits .xor .i64 (a : Int) 0 = a := by
  show IntKind.i64.wrap ((BitVec.ofInt 64 (a : Int) ^^^ BitVec.ofInt 64 0).toNat : Int) = _
  have h2 : (BitVec.ofInt 64 (a : Int)).toNat = a := by
    rw [BitVec.ofInt_natCast, BitVec.toNat_ofNat]; exact Nat.mod_eq_of_lt (by omega)
  rw [BitVec.toNat_xor, h2, show (BitVec.ofInt 64 0).toNat = 0 by decide, Nat.xor_zero, IntKind.wrap_i64]
  omega

theorem xor_i64_ones (a : Nat) (ha : a < 9223372036854775808) : bits .xor .i64 (a : Int) (-1) = -(a : Int) - 1 := by
  show IntKind.i64.wrap ((BitVec.ofInt 64 (a : Int) ^^^ BitVec.ofInt 64 (-1)).toNat : Int) = _
  have h1 : (BitVec.ofInt 64 (-1)).toNat = 2 ^ 64 - 1 := by decide
  have h2 : (BitVec.ofInt 64 (a : Int)).toNat = a := by
    rw [BitVec.ofInt_natCast, BitVec.toNat_ofNat]; exact Nat.mod_eq_of_lt (by omega)
  rw [BitVec.toNat_xor, h1, h2, Nat.xor_comm, ones_xor a (by omega), IntKind.wrap_i64]
  omega

theorem dec_zig (x : Int) (h0 : 0 ≤ x) (h1 : x < 18446744073709551616) :
    bits .xor .i64 (x / 2) (wrap64 (wrap64 x * 9223372036854775808) / 9223372036854775808) = unzig x := by
  obtain ⟨a, ha⟩ := Int.eq_ofNat_of_zero_le (show 0 ≤ x / 2 by omega)
  unfold unzig
  by_cases he : x % 2 = 0
  · have e : wrap64 (wrap64 x * 9223372036854775808) / 9223372036854775808 = 0 := by
      rw [wrap64_eq, wrap64_eq]
      omega
    rw [e, if_pos he, ha, xor_i64_zero a (by omega)]
  · have e : wrap64 (wrap64 x * 9223372036854775808) / 9223372036854775808 = -1 := by
      rw [wrap64_eq, wrap64_eq]
      omega
    rw [e, if_neg he, ha, xor_i64_ones a (by omega)]

theorem enc_zig (x : Int) (h0 : -9223372036854775808 ≤ x) (h1 : x ≤ 9223372036854775807) :
    bits .xor .u64 (IntKind.u64.wrap (wrap64 (x * 2))) (IntKind.u64.wrap (x / 9223372036854775808)) = zig x := by
  unfold zig
  by_cases hx : 0 ≤ x
  · have e1 : IntKind.u64.wrap (wrap64 (x * 2)) = (((2 * x).toNat : Nat) : Int) := by
      rw [IntKind.wrap_u64, wrap64_eq]
      omega
    have e2 : IntKind.u64.wrap (x / 9223372036854775808) = ((0 : Nat) : Int) := by
      rw [IntKind.wrap_u64]
      omega
    rw [e1, e2, bits_xor_u64_nat _ _ (by omega) (by omega), Nat.xor_zero, if_pos hx]
    omega
  · have e1 : IntKind.u64.wrap (wrap64 (x * 2)) = (((2 * x + 18446744073709551616).toNat : Nat) : Int) := by
      rw [IntKind.wrap_u64, wrap64_eq]
      omega
    have e2 : IntKind.u64.wrap (x / 9223372036854775808) = ((2 ^ 64 - 1 : Nat) : Int) := by
      rw [IntKind.wrap_u64]
      omega
    rw [e1, e2, bits_xor_u64_nat _ _ (by omega) (by omega), Nat.xor_comm, ones_xor _ (by omega), if_neg hx]
    omega

theorem and7_i8 (k : Int) (h0 : 0 ≤ k) (h1 : k ≤ 7) : bits .and .i8 k 7 = k := by
  have h := bits_mask .i8 7 (by decide) (fun n a b => by
    have : IntKind.i8.wrap n = (n + 128) % 256 - 128 := by simp [IntKind.wrap, IntKind.bits, IntKind.signed]; split <;> omega
    rw [this]; omega) 3 (by decide) k h0 (by omega)
  simp at h
  rw [h]
  omega

theorem and7_u64 (x : Int) (h0 : 0 ≤ x) (h1 : x < 18446744073709551616) : bits .and .u64 x 7 = x % 8 := by
  have h := bits_mask .u64 64 (by decide) wraps64 3 (by decide) x h0 (by omega)
  simpa using h

theorem or_tag (a k : Int) (h0 : 0 ≤ a) (h1 : a < 2305843009213693952) (h2 : 0 ≤ k) (h3 : k < 8) : bits .or .u64 (a * 8) k = a * 8 + k :=
  bits_join .u64 64 (by decide) wraps64 3 (a * 8) k (by omega) (by omega) (by omega) h2 (by omega) (by omega)

theorem wrap_u64_id (n : Int) (h0 : 0 ≤ n) (h1 : n < 18446744073709551616) : IntKind.u64.wrap n = n := by rw [IntKind.wrap_u64]; omega
theorem wrap_i8_id (n : Int) (h0 : 0 ≤ n) (h1 : n < 128) : IntKind.i8.wrap n = n := by
  have : IntKind.i8.wrap n = (n + 128) % 256 - 128 := by simp [IntKind.wrap, IntKind.bits, IntKind.signed]; split <;> omega
  rw [this]; omega

/-- What EncodeTag computes, and what DecodeTag does. -/
theorem tag_bits (a k : Int) (h0 : 0 ≤ a) (h1 : a ≤ 2147483647) (h2 : 0 ≤ k) (h3 : k ≤ 7) : bits .or .u64 (a * 8) (IntKind.u64.wrap (bits .and .i8 k 7)) = a * 8 + k := by
  rw [and7_i8 k h2 h3, wrap_u64_id k h2 (by omega), or_tag a k h0 (by omega) h2 (by omega)]
theorem kind_bits (x : Int) (h0 : 0 ≤ x) (h1 : x < 18446744073709551616) : IntKind.i8.wrap (bits .and .u64 x 7) = x % 8 := by
  rw [and7_u64 x h0 h1, wrap_i8_id _ (by omega) (by omega)]

/-- 'y | x' where y lies below 2^i and x is a multiple of 2^i. -/
theorem or_low (k : IntKind) (j : Nat) (hj : j ≤ k.bits) (hk : ∀ n : Int, 0 ≤ n → n < 2 ^ j → k.wrap n = n) (i : Nat)
    (y x : Int) (hy0 : 0 ≤ y) (hy : y < 2 ^ i) (hy1 : y < 2 ^ j) (hx0 : 0 ≤ x) (hx : x % 2 ^ i = 0) (hx1 : x < 2 ^ j) : bits .or k y x = y + x := by
  have h := bits_join k j hj hk i x y hx0 hx hx1 hy0 hy hy1
  obtain ⟨a, rfl⟩ := Int.eq_ofNat_of_zero_le hx0
  obtain ⟨b, rfl⟩ := Int.eq_ofNat_of_zero_le hy0
  have ha : a < 2 ^ j := by exact_mod_cast hx1
  have hb : b < 2 ^ j := by exact_mod_cast hy1
  rw [(bits_nat k j hj hk a b ha hb).2] at h
  rw [(bits_nat k j hj hk b a hb ha).2, Nat.or_comm, h]
  omega
theorem wraps32 (n : Int) (h0 : 0 ≤ n) (h1 : n < 2 ^ 32) : IntKind.u32.wrap n = n := by rw [IntKind.wrap_u32]; omega
theorem le32 (a b c d : Int) (ha : 0 ≤ a ∧ a < 256) (hb : 0 ≤ b ∧ b < 256) (hc : 0 ≤ c ∧ c < 256) (hd : 0 ≤ d ∧ d < 256) :
    bits .or .u32 (bits .or .u32 (bits .or .u32 a (b * 256)) (c * 65536)) (d * 16777216) = a + 256 * (b + 256 * (c + 256 * d)) := by
  rw [or_low .u32 32 (by decide) wraps32 8 a (b * 256) (by omega) (by omega) (by omega) (by omega) (by omega) (by omega),
    or_low .u32 32 (by decide) wraps32 16 _ (c * 65536) (by omega) (by omega) (by omega) (by omega) (by omega) (by omega),
    or_low .u32 32 (by decide) wraps32 24 _ (d * 16777216) (by omega) (by omega) (by omega) (by omega) (by omega) (by omega)]
  omega
theorem le64 (a b c d e f g h : Int) (ha : 0 ≤ a ∧ a < 256) (hb : 0 ≤ b ∧ b < 256) (hc : 0 ≤ c ∧ c < 256) (hd : 0 ≤ d ∧ d < 256) (he : 0 ≤ e ∧ e < 256) (hf : 0 ≤ f ∧ f < 256) (hg : 0 ≤ g ∧ g < 256) (hh : 0 ≤ h ∧ h < 256) :
    bits .or .u64 (bits .or .u64 (bits .or .u64 (bits .or .u64 (bits .or .u64 (bits .or .u64 (bits .or .u64 a (b * 256)) (c * 65536)) (d * 16777216)) (e * 4294967296)) (f * 1099511627776)) (g * 281474976710656)) (h * 72057594037927936) =
      a + 256 * (b + 256 * (c + 256 * (d + 256 * (e + 256 * (f + 256 * (g + 256 * h)))))) := by
  rw [or_low .u64 64 (by decide) wraps64 8 a (b * 256) (by omega) (by omega) (by omega) (by omega) (by omega) (by omega),
    or_low .u64 64 (by decide) wraps64 16 _ (c * 65536) (by omega) (by omega) (by omega) (by omega) (by omega) (by omega),
    or_low .u64 64 (by decide) wraps64 24 _ (d * 16777216) (by omega) (by omega) (by omega) (by omega) (by omega) (by omega),
    or_low .u64 64 (by decide) wraps64 32 _ (e * 4294967296) (by omega) (by omega) (by omega) (by omega) (by omega) (by omega),
    or_low .u64 64 (by decide) wraps64 40 _ (f * 1099511627776) (by omega) (by omega) (by omega) (by omega) (by omega) (by omega),
    or_low .u64 64 (by decide) wraps64 48 _ (g * 281474976710656) (by omega) (by omega) (by omega) (by omega) (by omega) (by omega),
    or_low .u64 64 (by decide) wraps64 56 _ (h * 72057594037927936) (by omega) (by omega) (by omega) (by omega) (by omega) (by omega)]
  omega

end Go.Proofs.Ytacdclkhhgjkbaa.bt
