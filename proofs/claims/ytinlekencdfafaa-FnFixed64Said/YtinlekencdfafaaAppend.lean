/-
  Contracts of the functions that append bytes, and of the reference's own ones that write numbers.
-/
import Derived.Test.YtinlekencdfafaaPure
import Derived.Test.YtinlekencdfafaaMem
import Derived.Test.YtinlekencdfafaaPlain
import Derived.Test.YtinlekencdfafaaTree
import Derived.WalkKit
import Derived.ProofKit
namespace Go.Proofs.Ytinlekencdfafaa.ap
open Go.RowKit
set_option linter.unusedVariables false

theorem info8 : (Try.prog.info? 5).map (fun i => (i.zero, i.size, i.bytes)) = some (some (.int .u8 0), 1, 1) := by kernel_rfl

theorem bv_of {n : Nat} {x : Int} (h : x = (n : Int)) : mem.bv n = .int .u8 x := by unfold mem.bv; rw [h]

theorem fix4 (x : Int) (h0 : 0 ≤ x) (h1 : x < 4294967296) :
    (#[.int .u8 (x % 256), .int .u8 (x / 256 % 256), .int .u8 (x / 65536 % 256), .int .u8 (x / 16777216)] : Array Value) = ((pl.fix x.toNat 4).map mem.bv).toArray := by
  obtain ⟨n, rfl⟩ := Int.eq_ofNat_of_zero_le h0
  simp only [pl.fix, List.map_cons, List.map_nil, Int.toNat_natCast]
  rw [bv_of (x := (n : Int) % 256) (by omega), bv_of (x := (n : Int) / 256 % 256) (by omega), bv_of (x := (n : Int) / 65536 % 256) (by omega), bv_of (x := (n : Int) / 16777216) (by omega)]
theorem fix8 (x : Int) (h0 : 0 ≤ x) (h1 : x < 18446744073709551616) :
    (#[.int .u8 (x % 256), .int .u8 (x / 256 % 256), .int .u8 (x / 65536 % 256), .int .u8 (x / 16777216 % 256), .int .u8 (x / 4294967296 % 256), .int .u8 (x / 1099511627776 % 256), .int .u8 (x / 281474976710656 % 256), .int .u8 (x / 72057594037927936)] : Array Value) =
      ((pl.fix x.toNat 8).map mem.bv).toArray := by
  obtain ⟨n, rfl⟩ := Int.eq_ofNat_of_zero_le h0
  simp only [pl.fix, List.map_cons, List.map_nil, Int.toNat_natCast]
  rw [bv_of (x := (n : Int) % 256) (by omega), bv_of (x := (n : Int) / 256 % 256) (by omega), bv_of (x := (n : Int) / 65536 % 256) (by omega), bv_of (x := (n : Int) / 16777216 % 256) (by omega),
    bv_of (x := (n : Int) / 4294967296 % 256) (by omega), bv_of (x := (n : Int) / 1099511627776 % 256) (by omega), bv_of (x := (n : Int) / 281474976710656 % 256) (by omega), bv_of (x := (n : Int) / 72057594037927936) (by omega)]

theorem wafx32 (base : Nat) (v : Value) (bs : List Nat) (x : Int) (w : World) (h0 : 0 ≤ x) (h1 : x < 4294967296) (hown : mem.Own w base 5 v bs) (hb : base ≤ w.heap.size) (hl : bs.length + 4 ≤ 140737488355328) :
    Calls Try.prog 35 #[v, .int .u32 x] w (mem.Gives w base 5 (bs ++ pl.fix x.toNat 4)) := by
  obtain ⟨i0, hi, hz0, hz1, hz2⟩ := info_parts info8
  have hle : bs.length + (pl.fix x.toNat 4).length ≤ 140737488355328 := by rw [pl.fix_len]; exact hl
  have HOWN := bt.hide hown
  have HLE := bt.hide hle
  have H0 := bt.hide hz0
  have H1 := bt.hide hz1
  have H2 := bt.hide hz2
  have HI := bt.hide hi
  clear hown hz0 hz1 hz2 hi hle
  go_enter Try.func35, Try.ntmps35
  go_wp2_with (at_builtin; refine mem.wpList_append_bytes _ rfl _ _ 22 rfl base 5 i0 Try.underlying22 HI.out H0.out H1.out H2.out v bs rfl ?c1 (w.heap.size + 1) _ 4 4 (pl.fix x.toNat 4) rfl rfl ?c2 ?c3 ?c4 ?_)
  case c1 => exact HOWN.out.keepB ((Below.refl _ _).alloc (Nat.le_refl _) _) (Nat.le_refl _)
  case c2 => exact mem.Rd.new w _ _ _ (pl.fix_byte _ _) (fix4 x h0 h1)
  case c3 => exact hl
  case c4 => simp; omega
  intro v1 w1 hown1 hbel1
  go_wp2_with fail
  go_ret
  exact ⟨v1, rfl, hown1, ((Below.refl _ _).alloc hb _).trans hbel1⟩
theorem iafx32 (A : Option Addr) (bs : List Nat) (n c : Nat) (x : Int) (w : World) (h0 : 0 ≤ x) (h1 : x < 4294967296) (hr : mem.Rd w w.heap.size A bs) (hn : n = bs.length) (hl : bs.length + 4 ≤ 140737488355328) :
    Calls Try.prog 17 #[.slice A n c, .int .u32 x] w (mem.Gives w w.heap.size 5 (bs ++ pl.fix x.toNat 4)) := by
  obtain ⟨i0, hi, hz0, hz1, hz2⟩ := info_parts info8
  have HN := bt.hide hn
  have HR := bt.hide hr
  have H0 := bt.hide hz0
  have H1 := bt.hide hz1
  have H2 := bt.hide hz2
  have HI := bt.hide hi
  clear hr hz0 hz1 hz2 hi hn
  go_enter Try.func17, Try.ntmps17
  go_wp2_with (at_builtin; refine mem.wpList_append_bytes _ rfl _ _ 22 rfl w.heap.size 5 i0 Try.underlying22 HI.out H0.out H1.out H2.out _ [] rfl (mem.Own.empty w _ _ (Nat.le_refl _)) w.heap.size A n c bs rfl HN.out ?c2 ?c3 ?c4 ?_)
  case c2 => exact HR.out.below ((Below.refl _ _).alloc (Nat.le_refl _) _)
  case c3 => have := HN.out; simp; omega
  case c4 => simp
  intro v1 w1 hown1 hbel1
  have HO := bt.hide hown1
  clear hown1
  have hbel : Below w.heap.size w w1 := ((Below.refl _ _).alloc (Nat.le_refl _) _).trans hbel1
  go_wp2_with fail
  refine (wafx32 w.heap.size v1 bs x _ h0 h1 HO.out hbel.size hl).mono ?_
  rintro e w2 ⟨v2, rfl, hown2, hbel2⟩
  go_wp2_with fail
  go_ret
  exact ⟨v2, rfl, hown2, hbel.trans hbel2⟩
theorem wafx64 (base : Nat) (v : Value) (bs : List Nat) (x : Int) (w : World) (h0 : 0 ≤ x) (h1 : x < 18446744073709551616) (hown : mem.Own w base 5 v bs) (hb : base ≤ w.heap.size) (hl : bs.length + 8 ≤ 140737488355328) :
    Calls Try.prog 34 #[v, .int .u64 x] w (mem.Gives w base 5 (bs ++ pl.fix x.toNat 8)) := by
  obtain ⟨i0, hi, hz0, hz1, hz2⟩ := info_parts info8
  have hle : bs.length + (pl.fix x.toNat 8).length ≤ 140737488355328 := by rw [pl.fix_len]; exact hl
  have HOWN := bt.hide hown
  have HLE := bt.hide hle
  have H0 := bt.hide hz0
  have H1 := bt.hide hz1
  have H2 := bt.hide hz2
  have HI := bt.hide hi
  clear hown hz0 hz1 hz2 hi hle
  go_enter Try.func34, Try.ntmps34
  go_wp2_with (at_builtin; refine mem.wpList_append_bytes _ rfl _ _ 22 rfl base 5 i0 Try.underlying22 HI.out H0.out H1.out H2.out v bs rfl ?c1 (w.heap.size + 1) _ 8 8 (pl.fix x.toNat 8) rfl rfl ?c2 ?c3 ?c4 ?_)
  case c1 => exact HOWN.out.keepB ((Below.refl _ _).alloc (Nat.le_refl _) _) (Nat.le_refl _)
  case c2 => exact mem.Rd.new w _ _ _ (pl.fix_byte _ _) (fix8 x h0 h1)
  case c3 => exact hl
  case c4 => simp; omega
  intro v1 w1 hown1 hbel1
  go_wp2_with fail
  go_ret
  exact ⟨v1, rfl, hown1, ((Below.refl _ _).alloc hb _).trans hbel1⟩
theorem iafx64 (A : Option Addr) (bs : List Nat) (n c : Nat) (x : Int) (w : World) (h0 : 0 ≤ x) (h1 : x < 18446744073709551616) (hr : mem.Rd w w.heap.size A bs) (hn : n = bs.length) (hl : bs.length + 8 ≤ 140737488355328) :
    Calls Try.prog 15 #[.slice A n c, .int .u64 x] w (mem.Gives w w.heap.size 5 (bs ++ pl.fix x.toNat 8)) := by
  obtain ⟨i0, hi, hz0, hz1, hz2⟩ := info_parts info8
  have HN := bt.hide hn
  have HR := bt.hide hr
  have H0 := bt.hide hz0
  have H1 := bt.hide hz1
  have H2 := bt.hide hz2
  have HI := bt.hide hi
  clear hr hz0 hz1 hz2 hi hn
  go_enter Try.func15, Try.ntmps15
  go_wp2_with (at_builtin; refine mem.wpList_append_bytes _ rfl _ _ 22 rfl w.heap.size 5 i0 Try.underlying22 HI.out H0.out H1.out H2.out _ [] rfl (mem.Own.empty w _ _ (Nat.le_refl _)) w.heap.size A n c bs rfl HN.out ?c2 ?c3 ?c4 ?_)
  case c2 => exact HR.out.below ((Below.refl _ _).alloc (Nat.le_refl _) _)
  case c3 => have := HN.out; simp; omega
  case c4 => simp
  intro v1 w1 hown1 hbel1
  have HO := bt.hide hown1
  clear hown1
  have hbel : Below w.heap.size w w1 := ((Below.refl _ _).alloc (Nat.le_refl _) _).trans hbel1
  go_wp2_with fail
  refine (wafx64 w.heap.size v1 bs x _ h0 h1 HO.out hbel.size hl).mono ?_
  rintro e w2 ⟨v2, rfl, hown2, hbel2⟩
  go_wp2_with fail
  go_ret
  exact ⟨v2, rfl, hown2, hbel.trans hbel2⟩

theorem dig (y : Int) (h0 : 0 ≤ y) (h1 : y < 18446744073709551616) : bits .or .u64 (bits .and .u64 y 127) 128 = y % 128 + 128 := by
  have e1 : bits .and .u64 y 127 = y % 128 := by simpa using bits_mask .u64 64 (by decide) bt.wraps64 7 (by decide) y h0 (by omega)
  obtain ⟨n, hn⟩ := Int.eq_ofNat_of_zero_le (show 0 ≤ y % 128 by omega)
  have e2 : bits .or .u64 (128 : Int) (n : Int) = ((128 ||| n : Nat) : Int) := (bits_nat .u64 64 (by decide) bt.wraps64 128 n (by decide) (by omega)).2
  have e3 : bits .or .u64 (n : Int) (128 : Int) = ((n ||| 128 : Nat) : Int) := (bits_nat .u64 64 (by decide) bt.wraps64 n 128 (by omega) (by decide)).2
  have e4 := bits_join .u64 64 (by decide) bt.wraps64 7 128 (n : Int) (by decide) (by decide) (by decide) (by omega) (by omega) (by omega)
  rw [e1, hn, e3, Nat.or_comm, ← e2, e4]
  omega

theorem enc1 (v : Nat) (h : v < 128) : pl.enc v = [v] := by unfold pl.enc; rw [pl.encF, if_pos h]
theorem enc_step (k v : Nat) (h : ¬ v < 128) : pl.encF (k + 1) v = (v % 128 + 128) :: pl.encF k (v / 128) := by rw [pl.encF, if_neg h]
theorem enc_end (k v : Nat) (h : v < 128) : pl.encF k v = [v] := by
  cases k with
  | zero => rfl
  | succ k => rw [pl.encF, if_pos h]
theorem venc2 (x : Int) (h0 : 128 ≤ x) (h1 : x < 16384) : (#[.int .u8 (IntKind.u8.wrap (bits .or .u64 (bits .and .u64 (x) 127) 128)), .int .u8 (x / 128)] : Array Value) = ((pl.enc x.toNat).map mem.bv).toArray := by
  obtain ⟨n, rfl⟩ := Int.eq_ofNat_of_zero_le (show 0 ≤ x by omega)
  simp only [Int.toNat_natCast]
  have he : pl.enc n = [n % 128 + 128, n / 128] := by
    unfold pl.enc
    rw [enc_step _ _ (by omega), enc_end _ _ (by omega)]
  rw [he]
  simp only [List.map_cons, List.map_nil]
  rw [bv_of (x := IntKind.u8.wrap (bits .or .u64 (bits .and .u64 ((n : Int)) 127) 128)) (by rw [dig _ (by omega) (by omega), IntKind.wrap_u8]; omega), bv_of (x := (n : Int) / 128) (by omega)]
theorem venc3 (x : Int) (h0 : 16384 ≤ x) (h1 : x < 2097152) : (#[.int .u8 (IntKind.u8.wrap (bits .or .u64 (bits .and .u64 (x) 127) 128)), .int .u8 (IntKind.u8.wrap (bits .or .u64 (bits .and .u64 (x / 128) 127) 128)), .int .u8 (x / 16384)] : Array Value) = ((pl.enc x.toNat).map mem.bv).toArray := by
  obtain ⟨n, rfl⟩ := Int.eq_ofNat_of_zero_le (show 0 ≤ x by omega)
  simp only [Int.toNat_natCast]
  have he : pl.enc n = [n % 128 + 128, n / 128 % 128 + 128, n / 16384] := by
    unfold pl.enc
    rw [enc_step _ _ (by omega), enc_step _ _ (by omega), enc_end _ _ (by omega)]
    simp [Nat.div_div_eq_div_mul]
  rw [he]
  simp only [List.map_cons, List.map_nil]
  rw [bv_of (x := IntKind.u8.wrap (bits .or .u64 (bits .and .u64 ((n : Int)) 127) 128)) (by rw [dig _ (by omega) (by omega), IntKind.wrap_u8]; omega), bv_of (x := IntKind.u8.wrap (bits .or .u64 (bits .and .u64 ((n : Int) / 128) 127) 128)) (by rw [dig _ (by omega) (by omega), IntKind.wrap_u8]; omega), bv_of (x := (n : Int) / 16384) (by omega)]
theorem venc4 (x : Int) (h0 : 2097152 ≤ x) (h1 : x < 268435456) : (#[.int .u8 (IntKind.u8.wrap (bits .or .u64 (bits .and .u64 (x) 127) 128)), .int .u8 (IntKind.u8.wrap (bits .or .u64 (bits .and .u64 (x / 128) 127) 128)), .int .u8 (IntKind.u8.wrap (bits .or .u64 (bits .and .u64 (x / 16384) 127) 128)), .int .u8 (x / 2097152)] : Array Value) = ((pl.enc x.toNat).map mem.bv).toArray := by
  obtain ⟨n, rfl⟩ := Int.eq_ofNat_of_zero_le (show 0 ≤ x by omega)
  simp only [Int.toNat_natCast]
  have he : pl.enc n = [n % 128 + 128, n / 128 % 128 + 128, n / 16384 % 128 + 128, n / 2097152] := by
    unfold pl.enc
    rw [enc_step _ _ (by omega), enc_step _ _ (by omega), enc_step _ _ (by omega), enc_end _ _ (by omega)]
    simp [Nat.div_div_eq_div_mul]
  rw [he]
  simp only [List.map_cons, List.map_nil]
  rw [bv_of (x := IntKind.u8.wrap (bits .or .u64 (bits .and .u64 ((n : Int)) 127) 128)) (by rw [dig _ (by omega) (by omega), IntKind.wrap_u8]; omega), bv_of (x := IntKind.u8.wrap (bits .or .u64 (bits .and .u64 ((n : Int) / 128) 127) 128)) (by rw [dig _ (by omega) (by omega), IntKind.wrap_u8]; omega), bv_of (x := IntKind.u8.wrap (bits .or .u64 (bits .and .u64 ((n : Int) / 16384) 127) 128)) (by rw [dig _ (by omega) (by omega), IntKind.wrap_u8]; omega), bv_of (x := (n : Int) / 2097152) (by omega)]
theorem venc5 (x : Int) (h0 : 268435456 ≤ x) (h1 : x < 34359738368) : (#[.int .u8 (IntKind.u8.wrap (bits .or .u64 (bits .and .u64 (x) 127) 128)), .int .u8 (IntKind.u8.wrap (bits .or .u64 (bits .and .u64 (x / 128) 127) 128)), .int .u8 (IntKind.u8.wrap (bits .or .u64 (bits .and .u64 (x / 16384) 127) 128)), .int .u8 (IntKind.u8.wrap (bits .or .u64 (bits .and .u64 (x / 2097152) 127) 128)), .int .u8 (x / 268435456)] : Array Value) = ((pl.enc x.toNat).map mem.bv).toArray := by
  obtain ⟨n, rfl⟩ := Int.eq_ofNat_of_zero_le (show 0 ≤ x by omega)
  simp only [Int.toNat_natCast]
  have he : pl.enc n = [n % 128 + 128, n / 128 % 128 + 128, n / 16384 % 128 + 128, n / 2097152 % 128 + 128, n / 268435456] := by
    unfold pl.enc
    rw [enc_step _ _ (by omega), enc_step _ _ (by omega), enc_step _ _ (by omega), enc_step _ _ (by omega), enc_end _ _ (by omega)]
    simp [Nat.div_div_eq_div_mul]
  rw [he]
  simp only [List.map_cons, List.map_nil]
  rw [bv_of (x := IntKind.u8.wrap (bits .or .u64 (bits .and .u64 ((n : Int)) 127) 128)) (by rw [dig _ (by omega) (by omega), IntKind.wrap_u8]; omega), bv_of (x := IntKind.u8.wrap (bits .or .u64 (bits .and .u64 ((n : Int) / 128) 127) 128)) (by rw [dig _ (by omega) (by omega), IntKind.wrap_u8]; omega), bv_of (x := IntKind.u8.wrap (bits .or .u64 (bits .and .u64 ((n : Int) / 16384) 127) 128)) (by rw [dig _ (by omega) (by omega), IntKind.wrap_u8]; omega), bv_of (x := IntKind.u8.wrap (bits .or .u64 (bits .and .u64 ((n : Int) / 2097152) 127) 128)) (by rw [dig _ (by omega) (by omega), IntKind.wrap_u8]; omega), bv_of (x := (n : Int) / 268435456) (by omega)]
theorem venc6 (x : Int) (h0 : 34359738368 ≤ x) (h1 : x < 4398046511104) : (#[.int .u8 (IntKind.u8.wrap (bits .or .u64 (bits .and .u64 (x) 127) 128)), .int .u8 (IntKind.u8.wrap (bits .or .u64 (bits .and .u64 (x / 128) 127) 128)), .int .u8 (IntKind.u8.wrap (bits .or .u64 (bits .and .u64 (x / 16384) 127) 128)), .int .u8 (IntKind.u8.wrap (bits .or .u64 (bits .and .u64 (x / 2097152) 127) 128)), .int .u8 (IntKind.u8.wrap (bits .or .u64 (bits .and .u64 (x / 268435456) 127) 128)), .int .u8 (x / 34359738368)] : Array Value) = ((pl.enc x.toNat).map mem.bv).toArray := by
  obtain ⟨n, rfl⟩ := Int.eq_ofNat_of_zero_le (show 0 ≤ x by omega)
  simp only [Int.toNat_natCast]
  have he : pl.enc n = [n % 128 + 128, n / 128 % 128 + 128, n / 16384 % 128 + 128, n / 2097152 % 128 + 128, n / 268435456 % 128 + 128, n / 34359738368] := by
    unfold pl.enc
    rw [enc_step _ _ (by omega), enc_step _ _ (by omega), enc_step _ _ (by omega), enc_step _ _ (by omega), enc_step _ _ (by omega), enc_end _ _ (by omega)]
    simp [Nat.div_div_eq_div_mul]
  rw [he]
  simp only [List.map_cons, List.map_nil]
  rw [bv_of (x := IntKind.u8.wrap (bits .or .u64 (bits .and .u64 ((n : Int)) 127) 128)) (by rw [dig _ (by omega) (by omega), IntKind.wrap_u8]; omega), bv_of (x := IntKind.u8.wrap (bits .or .u64 (bits .and .u64 ((n : Int) / 128) 127) 128)) (by rw [dig _ (by omega) (by omega), IntKind.wrap_u8]; omega), bv_of (x := IntKind.u8.wrap (bits .or .u64 (bits .and .u64 ((n : Int) / 16384) 127) 128)) (by rw [dig _ (by omega) (by omega), IntKind.wrap_u8]; omega), bv_of (x := IntKind.u8.wrap (bits .or .u64 (bits .and .u64 ((n : Int) / 2097152) 127) 128)) (by rw [dig _ (by omega) (by omega), IntKind.wrap_u8]; omega), bv_of (x := IntKind.u8.wrap (bits .or .u64 (bits .and .u64 ((n : Int) / 268435456) 127) 128)) (by rw [dig _ (by omega) (by omega), IntKind.wrap_u8]; omega), bv_of (x := (n : Int) / 34359738368) (by omega)]
theorem venc7 (x : Int) (h0 : 4398046511104 ≤ x) (h1 : x < 562949953421312) : (#[.int .u8 (IntKind.u8.wrap (bits .or .u64 (bits .and .u64 (x) 127) 128)), .int .u8 (IntKind.u8.wrap (bits .or .u64 (bits .and .u64 (x / 128) 127) 128)), .int .u8 (IntKind.u8.wrap (bits .or .u64 (bits .and .u64 (x / 16384) 127) 128)), .int .u8 (IntKind.u8.wrap (bits .or .u64 (bits .and .u64 (x / 2097152) 127) 128)), .int .u8 (IntKind.u8.wrap (bits .or .u64 (bits .and .u64 (x / 268435456) 127) 128)), .int .u8 (IntKind.u8.wrap (bits .or .u64 (bits .and .u64 (x / 34359738368) 127) 128)), .int .u8 (x / 4398046511104)] : Array Value) = ((pl.enc x.toNat).map mem.bv).toArray := by
  obtain ⟨n, rfl⟩ := Int.eq_ofNat_of_zero_le (show 0 ≤ x by omega)
  simp only [Int.toNat_natCast]
  have he : pl.enc n = [n % 128 + 128, n / 128 % 128 + 128, n / 16384 % 128 + 128, n / 2097152 % 128 + 128, n / 268435456 % 128 + 128, n / 34359738368 % 128 + 128, n / 4398046511104] := by
    unfold pl.enc
    rw [enc_step _ _ (by omega), enc_step _ _ (by omega), enc_step _ _ (by omega), enc_step _ _ (by omega), enc_step _ _ (by omega), enc_step _ _ (by omega), enc_end _ _ (by omega)]
    simp [Nat.div_div_eq_div_mul]
  rw [he]
  simp only [List.map_cons, List.map_nil]
  rw [bv_of (x := IntKind.u8.wrap (bits .or .u64 (bits .and .u64 ((n : Int)) 127) 128)) (by rw [dig _ (by omega) (by omega), IntKind.wrap_u8]; omega), bv_of (x := IntKind.u8.wrap (bits .or .u64 (bits .and .u64 ((n : Int) / 128) 127) 128)) (by rw [dig _ (by omega) (by omega), IntKind.wrap_u8]; omega), bv_of (x := IntKind.u8.wrap (bits .or .u64 (bits .and .u64 ((n : Int) / 16384) 127) 128)) (by rw [dig _ (by omega) (by omega), IntKind.wrap_u8]; omega), bv_of (x := IntKind.u8.wrap (bits .or .u64 (bits .and .u64 ((n : Int) / 2097152) 127) 128)) (by rw [dig _ (by omega) (by omega), IntKind.wrap_u8]; omega), bv_of (x := IntKind.u8.wrap (bits .or .u64 (bits .and .u64 ((n : Int) / 268435456) 127) 128)) (by rw [dig _ (by omega) (by omega), IntKind.wrap_u8]; omega), bv_of (x := IntKind.u8.wrap (bits .or .u64 (bits .and .u64 ((n : Int) / 34359738368) 127) 128)) (by rw [dig _ (by omega) (by omega), IntKind.wrap_u8]; omega), bv_of (x := (n : Int) / 4398046511104) (by omega)]
theorem venc8 (x : Int) (h0 : 562949953421312 ≤ x) (h1 : x < 72057594037927936) : (#[.int .u8 (IntKind.u8.wrap (bits .or .u64 (bits .and .u64 (x) 127) 128)), .int .u8 (IntKind.u8.wrap (bits .or .u64 (bits .and .u64 (x / 128) 127) 128)), .int .u8 (IntKind.u8.wrap (bits .or .u64 (bits .and .u64 (x / 16384) 127) 128)), .int .u8 (IntKind.u8.wrap (bits .or .u64 (bits .and .u64 (x / 2097152) 127) 128)), .int .u8 (IntKind.u8.wrap (bits .or .u64 (bits .and .u64 (x / 268435456) 127) 128)), .int .u8 (IntKind.u8.wrap (bits .or .u64 (bits .and .u64 (x / 34359738368) 127) 128)), .int .u8 (IntKind.u8.wrap (bits .or .u64 (bits .and .u64 (x / 4398046511104) 127) 128)), .int .u8 (x / 562949953421312)] : Array Value) = ((pl.enc x.toNat).map mem.bv).toArray := by
  obtain ⟨n, rfl⟩ := Int.eq_ofNat_of_zero_le (show 0 ≤ x by omega)
  simp only [Int.toNat_natCast]
  have he : pl.enc n = [n % 128 + 128, n / 128 % 128 + 128, n / 16384 % 128 + 128, n / 2097152 % 128 + 128, n / 268435456 % 128 + 128, n / 34359738368 % 128 + 128, n / 4398046511104 % 128 + 128, n / 562949953421312] := by
    unfold pl.enc
    rw [enc_step _ _ (by omega), enc_step _ _ (by omega), enc_step _ _ (by omega), enc_step _ _ (by omega), enc_step _ _ (by omega), enc_step _ _ (by omega), enc_step _ _ (by omega), enc_end _ _ (by omega)]
    simp [Nat.div_div_eq_div_mul]
  rw [he]
  simp only [List.map_cons, List.map_nil]
  rw [bv_of (x := IntKind.u8.wrap (bits .or .u64 (bits .and .u64 ((n : Int)) 127) 128)) (by rw [dig _ (by omega) (by omega), IntKind.wrap_u8]; omega), bv_of (x := IntKind.u8.wrap (bits .or .u64 (bits .and .u64 ((n : Int) / 128) 127) 128)) (by rw [dig _ (by omega) (by omega), IntKind.wrap_u8]; omega), bv_of (x := IntKind.u8.wrap (bits .or .u64 (bits .and .u64 ((n : Int) / 16384) 127) 128)) (by rw [dig _ (by omega) (by omega), IntKind.wrap_u8]; omega), bv_of (x := IntKind.u8.wrap (bits .or .u64 (bits .and .u64 ((n : Int) / 2097152) 127) 128)) (by rw [dig _ (by omega) (by omega), IntKind.wrap_u8]; omega), bv_of (x := IntKind.u8.wrap (bits .or .u64 (bits .and .u64 ((n : Int) / 268435456) 127) 128)) (by rw [dig _ (by omega) (by omega), IntKind.wrap_u8]; omega), bv_of (x := IntKind.u8.wrap (bits .or .u64 (bits .and .u64 ((n : Int) / 34359738368) 127) 128)) (by rw [dig _ (by omega) (by omega), IntKind.wrap_u8]; omega), bv_of (x := IntKind.u8.wrap (bits .or .u64 (bits .and .u64 ((n : Int) / 4398046511104) 127) 128)) (by rw [dig _ (by omega) (by omega), IntKind.wrap_u8]; omega), bv_of (x := (n : Int) / 562949953421312) (by omega)]
theorem venc9 (x : Int) (h0 : 72057594037927936 ≤ x) (h1 : x < 9223372036854775808) : (#[.int .u8 (IntKind.u8.wrap (bits .or .u64 (bits .and .u64 (x) 127) 128)), .int .u8 (IntKind.u8.wrap (bits .or .u64 (bits .and .u64 (x / 128) 127) 128)), .int .u8 (IntKind.u8.wrap (bits .or .u64 (bits .and .u64 (x / 16384) 127) 128)), .int .u8 (IntKind.u8.wrap (bits .or .u64 (bits .and .u64 (x / 2097152) 127) 128)), .int .u8 (IntKind.u8.wrap (bits .or .u64 (bits .and .u64 (x / 268435456) 127) 128)), .int .u8 (IntKind.u8.wrap (bits .or .u64 (bits .and .u64 (x / 34359738368) 127) 128)), .int .u8 (IntKind.u8.wrap (bits .or .u64 (bits .and .u64 (x / 4398046511104) 127) 128)), .int .u8 (IntKind.u8.wrap (bits .or .u64 (bits .and .u64 (x / 562949953421312) 127) 128)), .int .u8 (x / 72057594037927936)] : Array Value) = ((pl.enc x.toNat).map mem.bv).toArray := by
  obtain ⟨n, rfl⟩ := Int.eq_ofNat_of_zero_le (show 0 ≤ x by omega)
  simp only [Int.toNat_natCast]
  have he : pl.enc n = [n % 128 + 128, n / 128 % 128 + 128, n / 16384 % 128 + 128, n / 2097152 % 128 + 128, n / 268435456 % 128 + 128, n / 34359738368 % 128 + 128, n / 4398046511104 % 128 + 128, n / 562949953421312 % 128 + 128, n / 72057594037927936] := by
    unfold pl.enc
    rw [enc_step _ _ (by omega), enc_step _ _ (by omega), enc_step _ _ (by omega), enc_step _ _ (by omega), enc_step _ _ (by omega), enc_step _ _ (by omega), enc_step _ _ (by omega), enc_step _ _ (by omega), enc_end _ _ (by omega)]
    simp [Nat.div_div_eq_div_mul]
  rw [he]
  simp only [List.map_cons, List.map_nil]
  rw [bv_of (x := IntKind.u8.wrap (bits .or .u64 (bits .and .u64 ((n : Int)) 127) 128)) (by rw [dig _ (by omega) (by omega), IntKind.wrap_u8]; omega), bv_of (x := IntKind.u8.wrap (bits .or .u64 (bits .and .u64 ((n : Int) / 128) 127) 128)) (by rw [dig _ (by omega) (by omega), IntKind.wrap_u8]; omega), bv_of (x := IntKind.u8.wrap (bits .or .u64 (bits .and .u64 ((n : Int) / 16384) 127) 128)) (by rw [dig _ (by omega) (by omega), IntKind.wrap_u8]; omega), bv_of (x := IntKind.u8.wrap (bits .or .u64 (bits .and .u64 ((n : Int) / 2097152) 127) 128)) (by rw [dig _ (by omega) (by omega), IntKind.wrap_u8]; omega), bv_of (x := IntKind.u8.wrap (bits .or .u64 (bits .and .u64 ((n : Int) / 268435456) 127) 128)) (by rw [dig _ (by omega) (by omega), IntKind.wrap_u8]; omega), bv_of (x := IntKind.u8.wrap (bits .or .u64 (bits .and .u64 ((n : Int) / 34359738368) 127) 128)) (by rw [dig _ (by omega) (by omega), IntKind.wrap_u8]; omega), bv_of (x := IntKind.u8.wrap (bits .or .u64 (bits .and .u64 ((n : Int) / 4398046511104) 127) 128)) (by rw [dig _ (by omega) (by omega), IntKind.wrap_u8]; omega), bv_of (x := IntKind.u8.wrap (bits .or .u64 (bits .and .u64 ((n : Int) / 562949953421312) 127) 128)) (by rw [dig _ (by omega) (by omega), IntKind.wrap_u8]; omega), bv_of (x := (n : Int) / 72057594037927936) (by omega)]
theorem venc10 (x : Int) (h0 : 9223372036854775808 ≤ x) (h1 : x < 18446744073709551616) : (#[.int .u8 (IntKind.u8.wrap (bits .or .u64 (bits .and .u64 (x) 127) 128)), .int .u8 (IntKind.u8.wrap (bits .or .u64 (bits .and .u64 (x / 128) 127) 128)), .int .u8 (IntKind.u8.wrap (bits .or .u64 (bits .and .u64 (x / 16384) 127) 128)), .int .u8 (IntKind.u8.wrap (bits .or .u64 (bits .and .u64 (x / 2097152) 127) 128)), .int .u8 (IntKind.u8.wrap (bits .or .u64 (bits .and .u64 (x / 268435456) 127) 128)), .int .u8 (IntKind.u8.wrap (bits .or .u64 (bits .and .u64 (x / 34359738368) 127) 128)), .int .u8 (IntKind.u8.wrap (bits .or .u64 (bits .and .u64 (x / 4398046511104) 127) 128)), .int .u8 (IntKind.u8.wrap (bits .or .u64 (bits .and .u64 (x / 562949953421312) 127) 128)), .int .u8 (IntKind.u8.wrap (bits .or .u64 (bits .and .u64 (x / 72057594037927936) 127) 128)), .int .u8 1] : Array Value) = ((pl.enc x.toNat).map mem.bv).toArray := by
  obtain ⟨n, rfl⟩ := Int.eq_ofNat_of_zero_le (show 0 ≤ x by omega)
  simp only [Int.toNat_natCast]
  have he : pl.enc n = [n % 128 + 128, n / 128 % 128 + 128, n / 16384 % 128 + 128, n / 2097152 % 128 + 128, n / 268435456 % 128 + 128, n / 34359738368 % 128 + 128, n / 4398046511104 % 128 + 128, n / 562949953421312 % 128 + 128, n / 72057594037927936 % 128 + 128, n / 9223372036854775808] := by
    unfold pl.enc
    rw [enc_step _ _ (by omega), enc_step _ _ (by omega), enc_step _ _ (by omega), enc_step _ _ (by omega), enc_step _ _ (by omega), enc_step _ _ (by omega), enc_step _ _ (by omega), enc_step _ _ (by omega), enc_step _ _ (by omega), enc_end _ _ (by omega)]
    simp [Nat.div_div_eq_div_mul]
  rw [he]
  simp only [List.map_cons, List.map_nil]
  rw [bv_of (x := IntKind.u8.wrap (bits .or .u64 (bits .and .u64 ((n : Int)) 127) 128)) (by rw [dig _ (by omega) (by omega), IntKind.wrap_u8]; omega), bv_of (x := IntKind.u8.wrap (bits .or .u64 (bits .and .u64 ((n : Int) / 128) 127) 128)) (by rw [dig _ (by omega) (by omega), IntKind.wrap_u8]; omega), bv_of (x := IntKind.u8.wrap (bits .or .u64 (bits .and .u64 ((n : Int) / 16384) 127) 128)) (by rw [dig _ (by omega) (by omega), IntKind.wrap_u8]; omega), bv_of (x := IntKind.u8.wrap (bits .or .u64 (bits .and .u64 ((n : Int) / 2097152) 127) 128)) (by rw [dig _ (by omega) (by omega), IntKind.wrap_u8]; omega), bv_of (x := IntKind.u8.wrap (bits .or .u64 (bits .and .u64 ((n : Int) / 268435456) 127) 128)) (by rw [dig _ (by omega) (by omega), IntKind.wrap_u8]; omega), bv_of (x := IntKind.u8.wrap (bits .or .u64 (bits .and .u64 ((n : Int) / 34359738368) 127) 128)) (by rw [dig _ (by omega) (by omega), IntKind.wrap_u8]; omega), bv_of (x := IntKind.u8.wrap (bits .or .u64 (bits .and .u64 ((n : Int) / 4398046511104) 127) 128)) (by rw [dig _ (by omega) (by omega), IntKind.wrap_u8]; omega), bv_of (x := IntKind.u8.wrap (bits .or .u64 (bits .and .u64 ((n : Int) / 562949953421312) 127) 128)) (by rw [dig _ (by omega) (by omega), IntKind.wrap_u8]; omega), bv_of (x := IntKind.u8.wrap (bits .or .u64 (bits .and .u64 ((n : Int) / 72057594037927936) 127) 128)) (by rw [dig _ (by omega) (by omega), IntKind.wrap_u8]; omega), bv_of (x := 1) (by omega)]
end Go.Proofs.Ytinlekencdfafaa.ap
