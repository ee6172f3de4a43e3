/-
  Contracts of the functions that append numbers, bytes, texts, tags and groups.
-/
import Derived.Test.YtacdclkhhgjkbaaAppend
namespace Go.Proofs.Ytacdclkhhgjkbaa.ap
open Go.RowKit
set_option linter.unusedVariables false

theorem venc1 (x : Int) (h0 : 0 ≤ x) (h1 : x < 128) : (#[.int .u8 x] : Array Value) = ((pl.enc x.toNat).map mem.bv).toArray := by
  obtain ⟨n, rfl⟩ := Int.eq_ofNat_of_zero_le h0
  simp only [Int.toNat_natCast]
  rw [enc1 n (by omega)]
  simp only [List.map_cons, List.map_nil]
  rfl
set_option maxRecDepth 100000 in
theorem wav1 (base : Nat) (v : Value) (bs : List Nat) (x : Int) (w : World) (h0 : 0 ≤ x) (h1 : x < 128) (hown : mem.Own w base 5 v bs) (hb : base ≤ w.heap.size) (hl : bs.length + 10 ≤ 140737488355328) :
    Calls Try.prog 33 #[v, .int .u64 x] w (mem.Gives w base 5 (bs ++ pl.enc x.toNat)) := by
  obtain ⟨i0, hi, hz0, hz1, hz2⟩ := info_parts info8
  have HOWN := bt.hide hown
  have H0 := bt.hide hz0
  have H1 := bt.hide hz1
  have H2 := bt.hide hz2
  have HI := bt.hide hi
  clear hown hz0 hz1 hz2 hi
  go_enter Try.func33, Try.ntmps33
  go_wp2_with (at_builtin; refine mem.wpList_append_bytes _ rfl _ _ 25 rfl base 5 i0 Try.underlying25 HI.out H0.out H1.out H2.out v bs rfl ?c1 (w.heap.size + 1) _ 1 1 (pl.enc x.toNat) rfl ?cl ?c2 ?c3 ?c4 ?_)
  case c1 => exact HOWN.out.keepB ((Below.refl _ _).alloc (Nat.le_refl _) _) (Nat.le_refl _)
  case cl => simpa using congrArg Array.size (venc1 x h0 h1)
  case c2 => exact mem.Rd.new w _ _ _ (pl.enc_byte _ (by omega)) (venc1 x h0 h1)
  case c3 => omega
  case c4 => simp; omega
  intro v1 w1 hown1 hbel1
  go_wp2_with fail
  go_ret
  exact ⟨v1, rfl, hown1, ((Below.refl _ _).alloc hb _).trans hbel1⟩
set_option maxRecDepth 100000 in
theorem wav2 (base : Nat) (v : Value) (bs : List Nat) (x : Int) (w : World) (h0 : 128 ≤ x) (h1 : x < 16384) (hown : mem.Own w base 5 v bs) (hb : base ≤ w.heap.size) (hl : bs.length + 10 ≤ 140737488355328) :
    Calls Try.prog 33 #[v, .int .u64 x] w (mem.Gives w base 5 (bs ++ pl.enc x.toNat)) := by
  obtain ⟨i0, hi, hz0, hz1, hz2⟩ := info_parts info8
  have HOWN := bt.hide hown
  have H0 := bt.hide hz0
  have H1 := bt.hide hz1
  have H2 := bt.hide hz2
  have HI := bt.hide hi
  clear hown hz0 hz1 hz2 hi
  go_enter Try.func33, Try.ntmps33
  go_wp2_with (at_builtin; refine mem.wpList_append_bytes _ rfl _ _ 25 rfl base 5 i0 Try.underlying25 HI.out H0.out H1.out H2.out v bs rfl ?c1 (w.heap.size + 1) _ 2 2 (pl.enc x.toNat) rfl ?cl ?c2 ?c3 ?c4 ?_)
  case c1 => exact HOWN.out.keepB ((Below.refl _ _).alloc (Nat.le_refl _) _) (Nat.le_refl _)
  case cl => simpa using congrArg Array.size (venc2 x h0 h1)
  case c2 => exact mem.Rd.new w _ _ _ (pl.enc_byte _ (by omega)) (venc2 x h0 h1)
  case c3 => omega
  case c4 => simp; omega
  intro v1 w1 hown1 hbel1
  go_wp2_with fail
  go_ret
  exact ⟨v1, rfl, hown1, ((Below.refl _ _).alloc hb _).trans hbel1⟩
set_option maxRecDepth 100000 in
theorem wav3 (base : Nat) (v : Value) (bs : List Nat) (x : Int) (w : World) (h0 : 16384 ≤ x) (h1 : x < 2097152) (hown : mem.Own w base 5 v bs) (hb : base ≤ w.heap.size) (hl : bs.length + 10 ≤ 140737488355328) :
    Calls Try.prog 33 #[v, .int .u64 x] w (mem.Gives w base 5 (bs ++ pl.enc x.toNat)) := by
  obtain ⟨i0, hi, hz0, hz1, hz2⟩ := info_parts info8
  have HOWN := bt.hide hown
  have H0 := bt.hide hz0
  have H1 := bt.hide hz1
  have H2 := bt.hide hz2
  have HI := bt.hide hi
  clear hown hz0 hz1 hz2 hi
  go_enter Try.func33, Try.ntmps33
  go_wp2_with (at_builtin; refine mem.wpList_append_bytes _ rfl _ _ 25 rfl base 5 i0 Try.underlying25 HI.out H0.out H1.out H2.out v bs rfl ?c1 (w.heap.size + 1) _ 3 3 (pl.enc x.toNat) rfl ?cl ?c2 ?c3 ?c4 ?_)
  case c1 => exact HOWN.out.keepB ((Below.refl _ _).alloc (Nat.le_refl _) _) (Nat.le_refl _)
  case cl => simpa using congrArg Array.size (venc3 x h0 h1)
  case c2 => exact mem.Rd.new w _ _ _ (pl.enc_byte _ (by omega)) (venc3 x h0 h1)
  case c3 => omega
  case c4 => simp; omega
  intro v1 w1 hown1 hbel1
  go_wp2_with fail
  go_ret
  exact ⟨v1, rfl, hown1, ((Below.refl _ _).alloc hb _).trans hbel1⟩
set_option maxRecDepth 100000 in
theorem wav4 (base : Nat) (v : Value) (bs : List Nat) (x : Int) (w : World) (h0 : 2097152 ≤ x) (h1 : x < 268435456) (hown : mem.Own w base 5 v bs) (hb : base ≤ w.heap.size) (hl : bs.length + 10 ≤ 140737488355328) :
    Calls Try.prog 33 #[v, .int .u64 x] w (mem.Gives w base 5 (bs ++ pl.enc x.toNat)) := by
  obtain ⟨i0, hi, hz0, hz1, hz2⟩ := info_parts info8
  have HOWN := bt.hide hown
  have H0 := bt.hide hz0
  have H1 := bt.hide hz1
  have H2 := bt.hide hz2
  have HI := bt.hide hi
  clear hown hz0 hz1 hz2 hi
  go_enter Try.func33, Try.ntmps33
  go_wp2_with (at_builtin; refine mem.wpList_append_bytes _ rfl _ _ 25 rfl base 5 i0 Try.underlying25 HI.out H0.out H1.out H2.out v bs rfl ?c1 (w.heap.size + 1) _ 4 4 (pl.enc x.toNat) rfl ?cl ?c2 ?c3 ?c4 ?_)
  case c1 => exact HOWN.out.keepB ((Below.refl _ _).alloc (Nat.le_refl _) _) (Nat.le_refl _)
  case cl => simpa using congrArg Array.size (venc4 x h0 h1)
  case c2 => exact mem.Rd.new w _ _ _ (pl.enc_byte _ (by omega)) (venc4 x h0 h1)
  case c3 => omega
  case c4 => simp; omega
  intro v1 w1 hown1 hbel1
  go_wp2_with fail
  go_ret
  exact ⟨v1, rfl, hown1, ((Below.refl _ _).alloc hb _).trans hbel1⟩
set_option maxRecDepth 100000 in
theorem wav5 (base : Nat) (v : Value) (bs : List Nat) (x : Int) (w : World) (h0 : 268435456 ≤ x) (h1 : x < 34359738368) (hown : mem.Own w base 5 v bs) (hb : base ≤ w.heap.size) (hl : bs.length + 10 ≤ 140737488355328) :
    Calls Try.prog 33 #[v, .int .u64 x] w (mem.Gives w base 5 (bs ++ pl.enc x.toNat)) := by
  obtain ⟨i0, hi, hz0, hz1, hz2⟩ := info_parts info8
  have HOWN := bt.hide hown
  have H0 := bt.hide hz0
  have H1 := bt.hide hz1
  have H2 := bt.hide hz2
  have HI := bt.hide hi
  clear hown hz0 hz1 hz2 hi
  go_enter Try.func33, Try.ntmps33
  go_wp2_with (at_builtin; refine mem.wpList_append_bytes _ rfl _ _ 25 rfl base 5 i0 Try.underlying25 HI.out H0.out H1.out H2.out v bs rfl ?c1 (w.heap.size + 1) _ 5 5 (pl.enc x.toNat) rfl ?cl ?c2 ?c3 ?c4 ?_)
  case c1 => exact HOWN.out.keepB ((Below.refl _ _).alloc (Nat.le_refl _) _) (Nat.le_refl _)
  case cl => simpa using congrArg Array.size (venc5 x h0 h1)
  case c2 => exact mem.Rd.new w _ _ _ (pl.enc_byte _ (by omega)) (venc5 x h0 h1)
  case c3 => omega
  case c4 => simp; omega
  intro v1 w1 hown1 hbel1
  go_wp2_with fail
  go_ret
  exact ⟨v1, rfl, hown1, ((Below.refl _ _).alloc hb _).trans hbel1⟩
set_option maxRecDepth 100000 in
theorem wav6 (base : Nat) (v : Value) (bs : List Nat) (x : Int) (w : World) (h0 : 34359738368 ≤ x) (h1 : x < 4398046511104) (hown : mem.Own w base 5 v bs) (hb : base ≤ w.heap.size) (hl : bs.length + 10 ≤ 140737488355328) :
    Calls Try.prog 33 #[v, .int .u64 x] w (mem.Gives w base 5 (bs ++ pl.enc x.toNat)) := by
  obtain ⟨i0, hi, hz0, hz1, hz2⟩ := info_parts info8
  have HOWN := bt.hide hown
  have H0 := bt.hide hz0
  have H1 := bt.hide hz1
  have H2 := bt.hide hz2
  have HI := bt.hide hi
  clear hown hz0 hz1 hz2 hi
  go_enter Try.func33, Try.ntmps33
  go_wp2_with (at_builtin; refine mem.wpList_append_bytes _ rfl _ _ 25 rfl base 5 i0 Try.underlying25 HI.out H0.out H1.out H2.out v bs rfl ?c1 (w.heap.size + 1) _ 6 6 (pl.enc x.toNat) rfl ?cl ?c2 ?c3 ?c4 ?_)
  case c1 => exact HOWN.out.keepB ((Below.refl _ _).alloc (Nat.le_refl _) _) (Nat.le_refl _)
  case cl => simpa using congrArg Array.size (venc6 x h0 h1)
  case c2 => exact mem.Rd.new w _ _ _ (pl.enc_byte _ (by omega)) (venc6 x h0 h1)
  case c3 => omega
  case c4 => simp; omega
  intro v1 w1 hown1 hbel1
  go_wp2_with fail
  go_ret
  exact ⟨v1, rfl, hown1, ((Below.refl _ _).alloc hb _).trans hbel1⟩
set_option maxRecDepth 100000 in
theorem wav7 (base : Nat) (v : Value) (bs : List Nat) (x : Int) (w : World) (h0 : 4398046511104 ≤ x) (h1 : x < 562949953421312) (hown : mem.Own w base 5 v bs) (hb : base ≤ w.heap.size) (hl : bs.length + 10 ≤ 140737488355328) :
    Calls Try.prog 33 #[v, .int .u64 x] w (mem.Gives w base 5 (bs ++ pl.enc x.toNat)) := by
  obtain ⟨i0, hi, hz0, hz1, hz2⟩ := info_parts info8
  have HOWN := bt.hide hown
  have H0 := bt.hide hz0
  have H1 := bt.hide hz1
  have H2 := bt.hide hz2
  have HI := bt.hide hi
  clear hown hz0 hz1 hz2 hi
  go_enter Try.func33, Try.ntmps33
  go_wp2_with (at_builtin; refine mem.wpList_append_bytes _ rfl _ _ 25 rfl base 5 i0 Try.underlying25 HI.out H0.out H1.out H2.out v bs rfl ?c1 (w.heap.size + 1) _ 7 7 (pl.enc x.toNat) rfl ?cl ?c2 ?c3 ?c4 ?_)
  case c1 => exact HOWN.out.keepB ((Below.refl _ _).alloc (Nat.le_refl _) _) (Nat.le_refl _)
  case cl => simpa using congrArg Array.size (venc7 x h0 h1)
  case c2 => exact mem.Rd.new w _ _ _ (pl.enc_byte _ (by omega)) (venc7 x h0 h1)
  case c3 => omega
  case c4 => simp; omega
  intro v1 w1 hown1 hbel1
  go_wp2_with fail
  go_ret
  exact ⟨v1, rfl, hown1, ((Below.refl _ _).alloc hb _).trans hbel1⟩
set_option maxRecDepth 100000 in
theorem wav8 (base : Nat) (v : Value) (bs : List Nat) (x : Int) (w : World) (h0 : 562949953421312 ≤ x) (h1 : x < 72057594037927936) (hown : mem.Own w base 5 v bs) (hb : base ≤ w.heap.size) (hl : bs.length + 10 ≤ 140737488355328) :
    Calls Try.prog 33 #[v, .int .u64 x] w (mem.Gives w base 5 (bs ++ pl.enc x.toNat)) := by
  obtain ⟨i0, hi, hz0, hz1, hz2⟩ := info_parts info8
  have HOWN := bt.hide hown
  have H0 := bt.hide hz0
  have H1 := bt.hide hz1
  have H2 := bt.hide hz2
  have HI := bt.hide hi
  clear hown hz0 hz1 hz2 hi
  go_enter Try.func33, Try.ntmps33
  go_wp2_with (at_builtin; refine mem.wpList_append_bytes _ rfl _ _ 25 rfl base 5 i0 Try.underlying25 HI.out H0.out H1.out H2.out v bs rfl ?c1 (w.heap.size + 1) _ 8 8 (pl.enc x.toNat) rfl ?cl ?c2 ?c3 ?c4 ?_)
  case c1 => exact HOWN.out.keepB ((Below.refl _ _).alloc (Nat.le_refl _) _) (Nat.le_refl _)
  case cl => simpa using congrArg Array.size (venc8 x h0 h1)
  case c2 => exact mem.Rd.new w _ _ _ (pl.enc_byte _ (by omega)) (venc8 x h0 h1)
  case c3 => omega
  case c4 => simp; omega
  intro v1 w1 hown1 hbel1
  go_wp2_with fail
  go_ret
  exact ⟨v1, rfl, hown1, ((Below.refl _ _).alloc hb _).trans hbel1⟩
set_option maxRecDepth 100000 in
theorem wav9 (base : Nat) (v : Value) (bs : List Nat) (x : Int) (w : World) (h0 : 72057594037927936 ≤ x) (h1 : x < 9223372036854775808) (hown : mem.Own w base 5 v bs) (hb : base ≤ w.heap.size) (hl : bs.length + 10 ≤ 140737488355328) :
    Calls Try.prog 33 #[v, .int .u64 x] w (mem.Gives w base 5 (bs ++ pl.enc x.toNat)) := by
  obtain ⟨i0, hi, hz0, hz1, hz2⟩ := info_parts info8
  have HOWN := bt.hide hown
  have H0 := bt.hide hz0
  have H1 := bt.hide hz1
  have H2 := bt.hide hz2
  have HI := bt.hide hi
  clear hown hz0 hz1 hz2 hi
  go_enter Try.func33, Try.ntmps33
  go_wp2_with (at_builtin; refine mem.wpList_append_bytes _ rfl _ _ 25 rfl base 5 i0 Try.underlying25 HI.out H0.out H1.out H2.out v bs rfl ?c1 (w.heap.size + 1) _ 9 9 (pl.enc x.toNat) rfl ?cl ?c2 ?c3 ?c4 ?_)
  case c1 => exact HOWN.out.keepB ((Below.refl _ _).alloc (Nat.le_refl _) _) (Nat.le_refl _)
  case cl => simpa using congrArg Array.size (venc9 x h0 h1)
  case c2 => exact mem.Rd.new w _ _ _ (pl.enc_byte _ (by omega)) (venc9 x h0 h1)
  case c3 => omega
  case c4 => simp; omega
  intro v1 w1 hown1 hbel1
  go_wp2_with fail
  go_ret
  exact ⟨v1, rfl, hown1, ((Below.refl _ _).alloc hb _).trans hbel1⟩
set_option maxRecDepth 100000 in
theorem wav10 (base : Nat) (v : Value) (bs : List Nat) (x : Int) (w : World) (h0 : 9223372036854775808 ≤ x) (h1 : x < 18446744073709551616) (hown : mem.Own w base 5 v bs) (hb : base ≤ w.heap.size) (hl : bs.length + 10 ≤ 140737488355328) :
    Calls Try.prog 33 #[v, .int .u64 x] w (mem.Gives w base 5 (bs ++ pl.enc x.toNat)) := by
  obtain ⟨i0, hi, hz0, hz1, hz2⟩ := info_parts info8
  have HOWN := bt.hide hown
  have H0 := bt.hide hz0
  have H1 := bt.hide hz1
  have H2 := bt.hide hz2
  have HI := bt.hide hi
  clear hown hz0 hz1 hz2 hi
  go_enter Try.func33, Try.ntmps33
  go_wp2_with (at_builtin; refine mem.wpList_append_bytes _ rfl _ _ 25 rfl base 5 i0 Try.underlying25 HI.out H0.out H1.out H2.out v bs rfl ?c1 (w.heap.size + 1) _ 10 10 (pl.enc x.toNat) rfl ?cl ?c2 ?c3 ?c4 ?_)
  case c1 => exact HOWN.out.keepB ((Below.refl _ _).alloc (Nat.le_refl _) _) (Nat.le_refl _)
  case cl => simpa using congrArg Array.size (venc10 x h0 h1)
  case c2 => exact mem.Rd.new w _ _ _ (pl.enc_byte _ (by omega)) (venc10 x h0 h1)
  case c3 => omega
  case c4 => simp; omega
  intro v1 w1 hown1 hbel1
  go_wp2_with fail
  go_ret
  exact ⟨v1, rfl, hown1, ((Below.refl _ _).alloc hb _).trans hbel1⟩
/-- A number is appended as its digits. -/
theorem wavar (base : Nat) (v : Value) (bs : List Nat) (x : Int) (w : World) (h0 : 0 ≤ x) (h1 : x < 18446744073709551616) (hown : mem.Own w base 5 v bs) (hb : base ≤ w.heap.size) (hl : bs.length + 10 ≤ 140737488355328) :
    Calls Try.prog 33 #[v, .int .u64 x] w (mem.Gives w base 5 (bs ++ pl.enc x.toNat)) := by
  by_cases g1 : x < 128
  · exact wav1 base v bs x w (by omega) g1 hown hb hl
  by_cases g2 : x < 16384
  · exact wav2 base v bs x w (by omega) g2 hown hb hl
  by_cases g3 : x < 2097152
  · exact wav3 base v bs x w (by omega) g3 hown hb hl
  by_cases g4 : x < 268435456
  · exact wav4 base v bs x w (by omega) g4 hown hb hl
  by_cases g5 : x < 34359738368
  · exact wav5 base v bs x w (by omega) g5 hown hb hl
  by_cases g6 : x < 4398046511104
  · exact wav6 base v bs x w (by omega) g6 hown hb hl
  by_cases g7 : x < 562949953421312
  · exact wav7 base v bs x w (by omega) g7 hown hb hl
  by_cases g8 : x < 72057594037927936
  · exact wav8 base v bs x w (by omega) g8 hown hb hl
  by_cases g9 : x < 9223372036854775808
  · exact wav9 base v bs x w (by omega) g9 hown hb hl
  exact wav10 base v bs x w (by omega) h1 hown hb hl
end Go.Proofs.Ytacdclkhhgjkbaa.ap
