/-
  Contracts of the functions that append bytes, and of the reference's own ones that write numbers.
-/
import Derived.Test.YtacdclkhhgjkbaaPure
import Derived.Test.YtacdclkhhgjkbaaMem
import Derived.Test.YtacdclkhhgjkbaaPlain
import Derived.Test.YtacdclkhhgjkbaaTree
import Derived.WalkKit
import Derived.ProofKit
namespace Go.Proofs.Ytacdclkhhgjkbaa.ap
open Go.RowKit
set_option linter.unusedVariables false

theorem info8 : (Try.prog.info? 5).map (fun i => (i.zero, i.size, i.bytes)) = some (some (.int .u8 0), 1, 1) := by kernel_rfl

theorem bv_of {n : Nat} {x : Int} (h : x = (n : Int)) : mem.bv n = .int .u8 x := by unfold mem.bv; rw [h]

theorem fix4 (x : Int) (h0 : 0 ≤ x) (h1 : x < 4294967296) :
    (#[.int .u8 (x % 256), .int .u8 (x / 256 % 256), .int .u8 (x / 65536 % 256), .int .u8 (x / 16777216)] : Array Value) = ((pl.fix x.toNat 4).map mem.bv).toArray := by
  obtain ⟨n, rfl⟩ := Int.eq_ofNat_of_zero_le h0
  simp only [pl.fix, List.map_cons, List.map_nil, Int.toNat_natCast]
  rw [bv_of (x := (n : Int) % 256) (by omega), bv_of (x := (n : Int) / 256 % 256) (by omega), bv_of (x := (n : Int) / 65536 % 256) (by omega), bv_of (x := (n : Int) / 16777216) (by omega)]
theorem fix8 (x : Int) (h0 : 0 ≤ x) (h1 : x < 18446744073709551616) :
    (#[.int .u8 (x % 256), .int .u8 (x / 256 % 256), .int .u8 (x / 65536 % 256), .int .u8 (x / 16777216 % 256), .int .u8 (x / 4294967296 % 256), .int .u8 (x / 1099511627776 % 256), .int .u8 (x / 281474976710656 % 256), .int .u8 (x / 72057594037927936)] : Array Value) =
      ((pl.fix x.toNat 8).map mem.bv).toArray := by
  obtain ⟨n, rfl⟩ := Int.eq_ofNat_of_zero_le h0
  simp only [pl.fix, List.map_cons, List.map_nil, Int.toNat_natCast]
  rw [bv_of (x := (n : Int) % 256) (by omega), bv_of (x := (n : Int) / 256 % 256) (by omega), bv_of (x := (n : Int) / 65536 % 256) (by omega), bv_of (x := (n : Int) / 16777216 % 256) (by omega),
    bv_of (x := (n : Int) / 4294967296 % 256) (by omega), bv_of (x := (n : Int) / 1099511627776 % 256) (by omega), bv_of (x := (n : Int) / 281474976710656 % 256) (by omega), bv_of (x := (n : Int) / 72057594037927936) (by omega)]


theorem dig (y : Int) (h0 : 0 ≤ y) (h1 : y < 18446744073709551616) : bits .or .u64 (bits .and .u64 y 127) 128 = y % 128 + 128 := by
  have e1 : bits .and .u64 y 127 = y % 128 := by simpa using bits_mask .u64 64 (by decide) bt.wraps64 7 (by decide) y h0 (by omega)
  obtain ⟨n, hn⟩ := Int.eq_ofNat_of_zero_le (show 0 ≤ y % 128 by omega)
  have e2 : bits .or .u64 (128 : Int) (n : Int) = ((128 ||| n : Nat) : Int) := (bits_nat .u64 64 (by decide) bt.wraps64 128 n (by decide) (by omega)).2
  have e3 : bits .or .u64 (n : Int) (128 : Int) = ((n ||| 128 : Nat) : Int) := (bits_nat .u64 64 (by decide) bt.wraps64 n 128 (by omega) (by decide)).2
  have e4 := bits_join .u64 64 (by decide) bt.wraps64 7 128 (n : Int) (by decide) (by decide) (by decide) (by omega) (by omega) (by omega)
  rw [e1, hn, e3, Nat.or_comm, ← e2, e4]
  omega

theorem enc1 (v : Nat) (h : v < 128) : pl.enc v = [v] := by unfold pl.enc; rw [pl.encF, if_pos h]
theorem enc_step (k v : Nat) (h : ¬ v < 128) : pl.encF (k + 1) v = (v % 128 + 128) :: pl.encF k (v / 128) := by rw [pl.encF, if_neg h]
theorem enc_end (k v : Nat) (h : v < 128) : pl.encF k v = [v] := by
  cases k with
  | zero => rfl
  | succ k => rw [pl.encF, if_pos h]
theorem venc2 (x : Int) (h0 : 128 ≤ x) (h1 : x < 16384) : (#[.int .u8 (IntKind.u8.wrap (bits .or .u64 (bits .and .u64 (x) 127) 128)), .int .u8 (x / 128)] : Array Value) = ((pl.enc x.toNat).map mem.bv).toArray := by
  obtain ⟨n, rfl⟩ := Int.eq_ofNat_of_zero_le (show 0 ≤ x by omega)
  simp only [Int.toNat_natCast]
  have he : pl.enc n = [n % 128 + 128, n / 128] := by
    unfold pl.enc
    rw [enc_step _ _ (by omega), enc_end _ _ (by omega)]
  rw [he]
  simp only [List.map_cons, List.map_nil]
  rw [bv_of (x := IntKind.u8.wrap (bits .or .u64 (bits .and .u64 ((n : Int)) 127) 128)) (by rw [dig _ (by omega) (by omega), IntKind.wrap_u8]; omega), bv_of (x := (n : Int) / 128) (by omega)]
theorem venc3 (x : Int) (h0 : 16384 ≤ x) (h1 : x < 2097152) : (#[.int .u8 (IntKind.u8.wrap (bits .or .u64 (bits .and .u64 (x) 127) 128)), .int .u8 (IntKind.u8.wrap (bits .or .u64 (bits .and .u64 (x / 128) 127) 128)), .int .u8 (x / 16384)] : Array Value) = ((pl.enc x.toNat).map mem.bv).toArray := by
  obtain ⟨n, rfl⟩ := Int.eq_ofNat_of_zero_le (show 0 ≤ x by omega)
  simp only [Int.toNat_natCast]
  have he : pl.enc n = [n % 128 + 128, n / 128 % 128 + 128, n / 16384] := by
    unfold pl.enc
    rw [enc_step _ _ (by omega), enc_step _ _ (by omega), enc_end _ _ (by omega)]
    simp [Nat.div_div_eq_div_mul]
  rw [he]
  simp only [List.map_cons, List.map_nil]
  rw [bv_of (x := IntKind.u8.wrap (bits .or .u64 (bits .and .u64 ((n : Int)) 127) 128)) (by rw [dig _ (by omega) (by omega), IntKind.wrap_u8]; omega), bv_of (x := IntKind.u8.wrap (bits .or .u64 (bits .and .u64 ((n : Int) / 128) 127) 128)) (by rw [dig _ (by omega) (by omega), IntKind.wrap_u8]; omega), bv_of (x := (n : Int) / 16384) (by omega)]
theorem venc4 (x : Int) (h0 : 2097152 ≤ x) (h1 : x < 268435456) : (#[.int .u8 (IntKind.u8.wrap (bits .or .u64 (bits .and .u64 (x) 127) 128)), .int .u8 (IntKind.u8.wrap (bits .or .u64 (bits .and .u64 (x / 128) 127) 128)), .int .u8 (IntKind.u8.wrap (bits .or .u64 (bits .and .u64 (x / 16384) 127) 128)), .int .u8 (x / 2097152)] : Array Value) = ((pl.enc x.toNat).map mem.bv).toArray := by
  obtain ⟨n, rfl⟩ := Int.eq_ofNat_of_zero_le (show 0 ≤ x by omega)
  simp only [Int.toNat_natCast]
  have he : pl.enc n = [n % 128 + 128, n / 128 % 128 + 128, n / 16384 % 128 + 128, n / 2097152] := by
    unfold pl.enc
    rw [enc_step _ _ (by omega), enc_step _ _ (by omega), enc_step _ _ (by omega), enc_end _ _ (by omega)]
    simp [Nat.div_div_eq_div_mul]
  rw [he]
  simp only [List.map_cons, List.map_nil]
  rw [bv_of (x := IntKind.u8.wrap (bits .or .u64 (bits .and .u64 ((n : Int)) 127) 128)) (by rw [dig _ (by omega) (by omega), IntKind.wrap_u8]; omega), bv_of (x := IntKind.u8.wrap (bits .or .u64 (bits .and .u64 ((n : Int) / 128) 127) 128)) (by rw [dig _ (by omega) (by omega), IntKind.wrap_u8]; omega), bv_of (x := IntKind.u8.wrap (bits .or .u64 (bits .and .u64 ((n : Int) / 16384) 127) 128)) (by rw [dig _ (by omega) (by omega), IntKind.wrap_u8]; omega), bv_of (x := (n : Int) / 2097152) (by omega)]
theorem venc5 (x : Int) (h0 : 268435456 ≤ x) (h1 : x < 34359738368) : (#[.int .u8 (IntKind.u8.wrap (bits .or .u64 (bits .and .u64 (x) 127) 128)), .int .u8 (IntKind.u8.wrap (bits .or .u64 (bits .and .u64 (x / 128) 127) 128)), .int .u8 (IntKind.u8.wrap (bits .or .u64 (bits .and .u64 (x / 16384) 127) 128)), .int .u8 (IntKind.u8.wrap (bits .or .u64 (bits .and .u64 (x / 2097152) 127) 128)), .int .u8 (x / 268435456)] : Array Value) = ((pl.enc x.toNat).map mem.bv).toArray := by
  obtain ⟨n, rfl⟩ := Int.eq_ofNat_of_zero_le (show 0 ≤ x by omega)
  simp only [Int.toNat_natCast]
  have he : pl.enc n = [n % 128 + 128, n / 128 % 128 + 128, n / 16384 % 128 + 128, n / 2097152 % 128 + 128, n / 268435456] := by
    unfold pl.enc
    rw [enc_step _ _ (by omega), enc_step _ _ (by omega), enc_step _ _ (by omega), enc_step _ _ (by omega), enc_end _ _ (by omega)]
    simp [Nat.div_div_eq_div_mul]
  rw [he]
  simp only [List.map_cons, List.map_nil]
  rw [bv_of (x := IntKind.u8.wrap (bits .or .u64 (bits .and .u64 ((n : Int)) 127) 128)) (by rw [dig _ (by omega) (by omega), IntKind.wrap_u8]; omega), bv_of (x := IntKind.u8.wrap (bits .or .u64 (bits .and .u64 ((n : Int) / 128) 127) 128)) (by rw [dig _ (by omega) (by omega), IntKind.wrap_u8]; omega), bv_of (x := IntKind.u8.wrap (bits .or .u64 (bits .and .u64 ((n : Int) / 16384) 127) 128)) (by rw [dig _ (by omega) (by omega), IntKind.wrap_u8]; omega), bv_of (x := IntKind.u8.wrap (bits .or .u64 (bits .and .u64 ((n : Int) / 2097152) 127) 128)) (by rw [dig _ (by omega) (by omega), IntKind.wrap_u8]; omega), bv_of (x := (n : Int) / 268435456) (by omega)]
theorem venc6 (x : Int) (h0 : 34359738368 ≤ x) (h1 : x < 4398046511104) : (#[.int .u8 (IntKind.u8.wrap (bits .or .u64 (bits .and .u64 (x) 127) 128)), .int .u8 (IntKind.u8.wrap (bits .or .u64 (bits .and .u64 (x / 128) 127) 128)), .int .u8 (IntKind.u8.wrap (bits .or .u64 (bits .and .u64 (x / 16384) 127) 128)), .int .u8 (IntKind.u8.wrap (bits .or .u64 (bits .and .u64 (x / 2097152) 127) 128)), .int .u8 (IntKind.u8.wrap (bits .or .u64 (bits .and .u64 (x / 268435456) 127) 128)), .int .u8 (x / 34359738368)] : Array Value) = ((pl.enc x.toNat).map mem.bv).toArray := by
  obtain ⟨n, rfl⟩ := Int.eq_ofNat_of_zero_le (show 0 ≤ x by omega)
  simp only [Int.toNat_natCast]
  have he : pl.enc n = [n % 128 + 128, n / 128 % 128 + 128, n / 16384 % 128 + 128, n / 2097152 % 128 + 128, n / 268435456 % 128 + 128, n / 34359738368] := by
    unfold pl.enc
    rw [enc_step _ _ (by omega), enc_step _ _ (by omega), enc_step _ _ (by omega), enc_step _ _ (by omega), enc_step _ _ (by omega), enc_end _ _ (by omega)]
    simp [Nat.div_div_eq_div_mul]
  rw [he]
  simp only [List.map_cons, List.map_nil]
  rw [bv_of (x := IntKind.u8.wrap (bits .or .u64 (bits .and .u64 ((n : Int)) 127) 128)) (by rw [dig _ (by omega) (by omega), IntKind.wrap_u8]; omega), bv_of (x := IntKind.u8.wrap (bits .or .u64 (bits .and .u64 ((n : Int) / 128) 127) 128)) (by rw [dig _ (by omega) (by omega), IntKind.wrap_u8]; omega), bv_of (x := IntKind.u8.wrap (bits .or .u64 (bits .and .u64 ((n : Int) / 16384) 127) 128)) (by rw [dig _ (by omega) (by omega), IntKind.wrap_u8]; omega), bv_of (x := IntKind.u8.wrap (bits .or .u64 (bits .and .u64 ((n : Int) / 2097152) 127) 128)) (by rw [dig _ (by omega) (by omega), IntKind.wrap_u8]; omega), bv_of (x := IntKind.u8.wrap (bits .or .u64 (bits .and .u64 ((n : Int) / 268435456) 127) 128)) (by rw [dig _ (by omega) (by omega), IntKind.wrap_u8]; omega), bv_of (x := (n : Int) / 34359738368) (by omega)]
theorem venc7 (x : Int) (h0 : 4398046511104 ≤ x) (h1 : x < 562949953421312) : (#[.int .u8 (IntKind.u8.wrap (bits .or .u64 (bits .and .u64 (x) 127) 128)), .int .u8 (IntKind.u8.wrap (bits .or .u64 (bits .and .u64 (x / 128) 127) 128)), .int .u8 (IntKind.u8.wrap (bits .or .u64 (bits .and .u64 (x / 16384) 127) 128)), .int .u8 (IntKind.u8.wrap (bits .or .u64 (bits .and .u64 (x / 2097152) 127) 128)), .int .u8 (IntKind.u8.wrap (bits .or .u64 (bits .and .u64 (x / 268435456) 127) 128)), .int .u8 (IntKind.u8.wrap (bits .or .u64 (bits .and .u64 (x / 34359738368) 127) 128)), .int .u8 (x / 4398046511104)] : Array Value) = ((pl.enc x.toNat).map mem.bv).toArray := by
  obtain ⟨n, rfl⟩ := Int.eq_ofNat_of_zero_le (show 0 ≤ x by omega)
  simp only [Int.toNat_natCast]
  have he : pl.enc n = [n % 128 + 128, n / 128 % 128 + 128, n / 16384 % 128 + 128, n / 2097152 % 128 + 128, n / 268435456 % 128 + 128, n / 34359738368 % 128 + 128, n / 4398046511104] := by
    unfold pl.enc
    rw [enc_step _ _ (by omega), enc_step _ _ (by omega), enc_step _ _ (by omega), enc_step _ _ (by omega), enc_step _ _ (by omega), enc_step _ _ (by omega), enc_end _ _ (by omega)]
    simp [Nat.div_div_eq_div_mul]
  rw [he]
  simp only [List.map_cons, List.map_nil]
  rw [bv_of (x := IntKind.u8.wrap (bits .or .u64 (bits .and .u64 ((n : Int)) 127) 128)) (by rw [dig _ (by omega) (by omega), IntKind.wrap_u8]; omega), bv_of (x := IntKind.u8.wrap (bits .or .u64 (bits .and .u64 ((n : Int) / 128) 127) 128)) (by rw [dig _ (by omega) (by omega), IntKind.wrap_u8]; omega), bv_of (x := IntKind.u8.wrap (bits .or .u64 (bits .and .u64 ((n : Int) / 16384) 127) 128)) (by rw [dig _ (by omega) (by omega), IntKind.wrap_u8]; omega), bv_of (x := IntKind.u8.wrap (bits .or .u64 (bits .and .u64 ((n : Int) / 2097152) 127) 128)) (by rw [dig _ (by omega) (by omega), IntKind.wrap_u8]; omega), bv_of (x := IntKind.u8.wrap (bits .or .u64 (bits .and .u64 ((n : Int) / 268435456) 127) 128)) (by rw [dig _ (by omega) (by omega), IntKind.wrap_u8]; omega), bv_of (x := IntKind.u8.wrap (bits .or .u64 (bits .and .u64 ((n : Int) / 34359738368) 127) 128)) (by rw [dig _ (by omega) (by omega), IntKind.wrap_u8]; omega), bv_of (x := (n : Int) / 4398046511104) (by omega)]
theorem venc8 (x : Int) (h0 : 562949953421312 ≤ x) (h1 : x < 72057594037927936) : (#[.int .u8 (IntKind.u8.wrap (bits .or .u64 (bits .and .u64 (x) 127) 128)), .int .u8 (IntKind.u8.wrap (bits .or .u64 (bits .and .u64 (x / 128) 127) 128)), .int .u8 (IntKind.u8.wrap (bits .or .u64 (bits .and .u64 (x / 16384) 127) 128)), .int .u8 (IntKind.u8.wrap (bits .or .u64 (bits .and .u64 (x / 2097152) 127) 128)), .int .u8 (IntKind.u8.wrap (bits .or .u64 (bits .and .u64 (x / 268435456) 127) 128)), .int .u8 (IntKind.u8.wrap (bits .or .u64 (bits .and .u64 (x / 34359738368) 127) 128)), .int .u8 (IntKind.u8.wrap (bits .or .u64 (bits .and .u64 (x / 4398046511104) 127) 128)), .int .u8 (x / 562949953421312)] : Array Value) = ((pl.enc x.toNat).map mem.bv).toArray := by
  obtain ⟨n, rfl⟩ := Int.eq_ofNat_of_zero_le (show 0 ≤ x by omega)
  simp only [Int.toNat_natCast]
  have he : pl.enc n = [n % 128 + 128, n / 128 % 128 + 128, n / 16384 % 128 + 128, n / 2097152 % 128 + 128, n / 268435456 % 128 + 128, n / 34359738368 % 128 + 128, n / 4398046511104 % 128 + 128, n / 562949953421312] := by
    unfold pl.enc
    rw [enc_step _ _ (by omega), enc_step _ _ (by omega), enc_step _ _ (by omega), enc_step _ _ (by omega), enc_step _ _ (by omega), enc_step _ _ (by omega), enc_step _ _ (by omega), enc_end _ _ (by omega)]
    simp [Nat.div_div_eq_div_mul]
  rw [he]
  simp only [List.map_cons, List.map_nil]
  rw [bv_of (x := IntKind.u8.wrap (bits .or .u64 (bits .and .u64 ((n : Int)) 127) 128)) (by rw [dig _ (by omega) (by omega), IntKind.wrap_u8]; omega), bv_of (x := IntKind.u8.wrap (bits .or .u64 (bits .and .u64 ((n : Int) / 128) 127) 128)) (by rw [dig _ (by omega) (by omega), IntKind.wrap_u8]; omega), bv_of (x := IntKind.u8.wrap (bits .or .u64 (bits .and .u64 ((n : Int) / 16384) 127) 128)) (by rw [dig _ (by omega) (by omega), IntKind.wrap_u8]; omega), bv_of (x := IntKind.u8.wrap (bits .or .u64 (bits .and .u64 ((n : Int) / 2097152) 127) 128)) (by rw [dig _ (by omega) (by omega), IntKind.wrap_u8]; omega), bv_of (x := IntKind.u8.wrap (bits .or .u64 (bits .and .u64 ((n : Int) / 268435456) 127) 128)) (by rw [dig _ (by omega) (by omega), IntKind.wrap_u8]; omega), bv_of (x := IntKind.u8.wrap (bits .or .u64 (bits .and .u64 ((n : Int) / 34359738368) 127) 128)) (by rw [dig _ (by omega) (by omega), IntKind.wrap_u8]; omega), bv_of (x := IntKind.u8.wrap (bits .or .u64 (bits .and .u64 ((n : Int) / 4398046511104) 127) 128)) (by rw [dig _ (by omega) (by omega), IntKind.wrap_u8]; omega), bv_of (x := (n : Int) / 562949953421312) (by omega)]
theorem venc9 (x : Int) (h0 : 72057594037927936 ≤ x) (h1 : x < 9223372036854775808) : (#[.int .u8 (IntKind.u8.wrap (bits .or .u64 (bits .and .u64 (x) 127) 128)), .int .u8 (IntKind.u8.wrap (bits .or .u64 (bits .and .u64 (x / 128) 127) 128)), .int .u8 (IntKind.u8.wrap (bits .or .u64 (bits .and .u64 (x / 16384) 127) 128)), .int .u8 (IntKind.u8.wrap (bits .or .u64 (bits .and .u64 (x / 2097152) 127) 128)), .int .u8 (IntKind.u8.wrap (bits .or .u64 (bits .and .u64 (x / 268435456) 127) 128)), .int .u8 (IntKind.u8.wrap (bits .or .u64 (bits .and .u64 (x / 34359738368) 127) 128)), .int .u8 (IntKind.u8.wrap (bits .or .u64 (bits .and .u64 (x / 4398046511104) 127) 128)), .int .u8 (IntKind.u8.wrap (bits .or .u64 (bits .and .u64 (x / 562949953421312) 127) 128)), .int .u8 (x / 72057594037927936)] : Array Value) = ((pl.enc x.toNat).map mem.bv).toArray := by
  obtain ⟨n, rfl⟩ := Int.eq_ofNat_of_zero_le (show 0 ≤ x by omega)
  simp only [Int.toNat_natCast]
  have he : pl.enc n = [n % 128 + 128, n / 128 % 128 + 128, n / 16384 % 128 + 128, n / 2097152 % 128 + 128, n / 268435456 % 128 + 128, n / 34359738368 % 128 + 128, n / 4398046511104 % 128 + 128, n / 562949953421312 % 128 + 128, n / 72057594037927936] := by
    unfold pl.enc
    rw [enc_step _ _ (by omega), enc_step _ _ (by omega), enc_step _ _ (by omega), enc_step _ _ (by omega), enc_step _ _ (by omega), enc_step _ _ (by omega), enc_step _ _ (by omega), enc_step _ _ (by omega), enc_end _ _ (by omega)]
    simp [Nat.div_div_eq_div_mul]
  rw [he]
  simp only [List.map_cons, List.map_nil]
  rw [bv_of (x := IntKind.u8.wrap (bits .or .u64 (bits .and .u64 ((n : Int)) 127) 128)) (by rw [dig _ (by omega) (by omega), IntKind.wrap_u8]; omega), bv_of (x := IntKind.u8.wrap (bits .or .u64 (bits .and .u64 ((n : Int) / 128) 127) 128)) (by rw [dig _ (by omega) (by omega), IntKind.wrap_u8]; omega), bv_of (x := IntKind.u8.wrap (bits .or .u64 (bits .and .u64 ((n : Int) / 16384) 127) 128)) (by rw [dig _ (by omega) (by omega), IntKind.wrap_u8]; omega), bv_of (x := IntKind.u8.wrap (bits .or .u64 (bits .and .u64 ((n : Int) / 2097152) 127) 128)) (by rw [dig _ (by omega) (by omega), IntKind.wrap_u8]; omega), bv_of (x := IntKind.u8.wrap (bits .or .u64 (bits .and .u64 ((n : Int) / 268435456) 127) 128)) (by rw [dig _ (by omega) (by omega), IntKind.wrap_u8]; omega), bv_of (x := IntKind.u8.wrap (bits .or .u64 (bits .and .u64 ((n : Int) / 34359738368) 127) 128)) (by rw [dig _ (by omega) (by omega), IntKind.wrap_u8]; omega), bv_of (x := IntKind.u8.wrap (bits .or .u64 (bits .and .u64 ((n : Int) / 4398046511104) 127) 128)) (by rw [dig _ (by omega) (by omega), IntKind.wrap_u8]; omega), bv_of (x := IntKind.u8.wrap (bits .or .u64 (bits .and .u64 ((n : Int) / 562949953421312) 127) 128)) (by rw [dig _ (by omega) (by omega), IntKind.wrap_u8]; omega), bv_of (x := (n : Int) / 72057594037927936) (by omega)]
theorem venc10 (x : Int) (h0 : 9223372036854775808 ≤ x) (h1 : x < 18446744073709551616) : (#[.int .u8 (IntKind.u8.wrap (bits .or .u64 (bits .and .u64 (x) 127) 128)), .int .u8 (IntKind.u8.wrap (bits .or .u64 (bits .and .u64 (x / 128) 127) 128)), .int .u8 (IntKind.u8.wrap (bits .or .u64 (bits .and .u64 (x / 16384) 127) 128)), .int .u8 (IntKind.u8.wrap (bits .or .u64 (bits .and .u64 (x / 2097152) 127) 128)), .int .u8 (IntKind.u8.wrap (bits .or .u64 (bits .and .u64 (x / 268435456) 127) 128)), .int .u8 (IntKind.u8.wrap (bits .or .u64 (bits .and .u64 (x / 34359738368) 127) 128)), .int .u8 (IntKind.u8.wrap (bits .or .u64 (bits .and .u64 (x / 4398046511104) 127) 128)), .int .u8 (IntKind.u8.wrap (bits .or .u64 (bits .and .u64 (x / 562949953421312) 127) 128)), .int .u8 (IntKind.u8.wrap (bits .or .u64 (bits .and .u64 (x / 72057594037927936) 127) 128)), .int .u8 1] : Array Value) = ((pl.enc x.toNat).map mem.bv).toArray := by
  obtain ⟨n, rfl⟩ := Int.eq_ofNat_of_zero_le (show 0 ≤ x by omega)
  simp only [Int.toNat_natCast]
  have he : pl.enc n = [n % 128 + 128, n / 128 % 128 + 128, n / 16384 % 128 + 128, n / 2097152 % 128 + 128, n / 268435456 % 128 + 128, n / 34359738368 % 128 + 128, n / 4398046511104 % 128 + 128, n / 562949953421312 % 128 + 128, n / 72057594037927936 % 128 + 128, n / 9223372036854775808] := by
    unfold pl.enc
    rw [enc_step _ _ (by omega), enc_step _ _ (by omega), enc_step _ _ (by omega), enc_step _ _ (by omega), enc_step _ _ (by omega), enc_step _ _ (by omega), enc_step _ _ (by omega), enc_step _ _ (by omega), enc_step _ _ (by omega), enc_end _ _ (by omega)]
    simp [Nat.div_div_eq_div_mul]
  rw [he]
  simp only [List.map_cons, List.map_nil]
  rw [bv_of (x := IntKind.u8.wrap (bits .or .u64 (bits .and .u64 ((n : Int)) 127) 128)) (by rw [dig _ (by omega) (by omega), IntKind.wrap_u8]; omega), bv_of (x := IntKind.u8.wrap (bits .or .u64 (bits .and .u64 ((n : Int) / 128) 127) 128)) (by rw [dig _ (by omega) (by omega), IntKind.wrap_u8]; omega), bv_of (x := IntKind.u8.wrap (bits .or .u64 (bits .and .u64 ((n : Int) / 16384) 127) 128)) (by rw [dig _ (by omega) (by omega), IntKind.wrap_u8]; omega), bv_of (x := IntKind.u8.wrap (bits .or .u64 (bits .and .u64 ((n : Int) / 2097152) 127) 128)) (by rw [dig _ (by omega) (by omega), IntKind.wrap_u8]; omega), bv_of (x := IntKind.u8.wrap (bits .or .u64 (bits .and .u64 ((n : Int) / 268435456) 127) 128)) (by rw [dig _ (by omega) (by omega), IntKind.wrap_u8]; omega), bv_of (x := IntKind.u8.wrap (bits .or .u64 (bits .and .u64 ((n : Int) / 34359738368) 127) 128)) (by rw [dig _ (by omega) (by omega), IntKind.wrap_u8]; omega), bv_of (x := IntKind.u8.wrap (bits .or .u64 (bits .and .u64 ((n : Int) / 4398046511104) 127) 128)) (by rw [dig _ (by omega) (by omega), IntKind.wrap_u8]; omega), bv_of (x := IntKind.u8.wrap (bits .or .u64 (bits .and .u64 ((n : Int) / 562949953421312) 127) 128)) (by rw [dig _ (by omega) (by omega), IntKind.wrap_u8]; omega), bv_of (x := IntKind.u8.wrap (bits .or .u64 (bits .and .u64 ((n : Int) / 72057594037927936) 127) 128)) (by rw [dig _ (by omega) (by omega), IntKind.wrap_u8]; omega), bv_of (x := 1) (by omega)]
end Go.Proofs.Ytacdclkhhgjkbaa.ap
