/-
  Contracts of the reference's functions that write numbers: Varint, Fixed.
-/
import Derived.Test.YtacdclkhhgjkbaaAppend
import Derived.OpenShut
namespace Go.Proofs.Ytacdclkhhgjkbaa.sw
open Go.RowKit
set_option linter.unusedVariables false

theorem ofNat_wrap (m : Nat) (h : m < 256) : mem.bv m = .int .u8 (m : Int) := rfl
theorem one_byte (x : Int) (n : Nat) (h : x = (n : Int)) : (#[.int .u8 x] : Array Value) = (([n] : List Nat).map mem.bv).toArray := by
  subst h
  rfl

/-- What has been written, and what is left of the number. -/
def VRel (v0 m : Nat) (bs : List Nat) : Prop := bs.length ≤ 9 ∧ m < 2 * 128 ^ (9 - bs.length) ∧ bs ++ pl.encF (9 - bs.length) m = pl.enc v0
theorem VRel.start (v0 : Nat) (h : v0 < 18446744073709551616) : VRel v0 v0 [] := ⟨by simp, by simpa using h, rfl⟩
theorem VRel.go_on {v0 m : Nat} {bs : List Nat} (h : VRel v0 m bs) (hm : 127 < m) : VRel v0 (m / 128) (bs ++ [m % 128 + 128]) ∧ bs.length ≤ 8 := by
  obtain ⟨h1, h2, h3⟩ := h
  have h4 : bs.length ≤ 8 := by
    rcases Nat.lt_or_ge bs.length 9 with h | h
    · omega
    · rw [show 9 - bs.length = 0 by omega] at h2
      simp at h2
      omega
  obtain ⟨k, hk⟩ : ∃ k, 9 - bs.length = k + 1 := ⟨8 - bs.length, by omega⟩
  rw [hk] at h2 h3
  rw [pl.encF, if_neg (by omega)] at h3
  rw [Nat.pow_succ] at h2
  refine ⟨⟨by simp; omega, ?_, ?_⟩, h4⟩
  · rw [show 9 - (bs ++ [m % 128 + 128]).length = k by simp; omega]
    omega
  · rw [show 9 - (bs ++ [m % 128 + 128]).length = k by simp; omega, ← h3]
    simp
theorem VRel.done {v0 m : Nat} {bs : List Nat} (h : VRel v0 m bs) (hm : m ≤ 127) : bs ++ [m] = pl.enc v0 := by
  rw [← h.2.2, ap.enc_end _ _ (by omega)]

set_option maxRecDepth 100000 in
set_option maxHeartbeats 400000 in
theorem svar (base : Nat) (x : Int) (w : World) (h0 : 0 ≤ x) (h1 : x < 18446744073709551616) (hb : base ≤ w.heap.size) :
    Calls Try.prog 21 #[.int .u64 x] w (mem.Gives w base 5 (pl.enc x.toNat)) := by
  obtain ⟨v0, rfl⟩ := Int.eq_ofNat_of_zero_le h0
  rw [Int.toNat_natCast]
  obtain ⟨i0, hi, hz0, hz1, hz2⟩ := info_parts ap.info8
  have H0 := bt.hide hz0
  have H1 := bt.hide hz1
  have H2 := bt.hide hz2
  have HI := bt.hide hi
  have HS := bt.hide (VRel.start v0 (by omega))
  clear hz0 hz1 hz2 hi
  go_enter Try.func21, Try.ntmps21
  go_wp2_with fail
  go_loopw [0, 3] (fun m o wr => ∃ (k : Nat) (bs : List Nat), m = .int .u64 k ∧ k < 18446744073709551616 ∧ Hid (VRel v0 k bs) ∧ mem.Own wr base 5 o bs ∧ Hid (Below base w wr)) (fun m _ _ => (intOf m).toNat)
  case atStart => exact ⟨v0, [], rfl, by omega, HS, mem.Own.empty w _ _ hb, bt.hide ((Below.refl _ _).alloc hb _)⟩
  case round =>
    obtain ⟨k, bs, rfl, hk, hv, hown, hbel⟩ := hrel
    have HOWN := bt.hide hown
    have hbw := hbel.out.size
    have hbs := hv.out.1
    clear hown
    by_cases hlt : 127 < k
    · have hlt' : (127 : Int) < (k : Int) := by omega
      go_wp2_with (at_builtin; refine mem.wpList_append_bytes _ rfl _ _ 25 rfl base 5 i0 Try.underlying25 HI.out H0.out H1.out H2.out _ bs rfl ?c1 (wr.heap.size + 1) _ 1 1 [k % 128 + 128] rfl rfl ?c2 ?c3 ?c4 ?_)
      case c1 => exact HOWN.out.keepB ((Below.refl _ _).alloc (Nat.le_refl _) _) (Nat.le_refl _)
      case c2 => exact mem.Rd.new wr _ _ _ (by simp; omega) (one_byte _ _ (by omega))
      case c3 => omega
      case c4 => first | omega | (simp; omega)
      intro v1 w1 hown1 hbel1
      have HO := bt.hide hown1
      have HB := bt.hide (hbel.out.trans (((Below.refl _ _).alloc (show base ≤ wr.heap.size by omega) _).trans hbel1))
      clear hown1 hbel1
      go_wp2_with fail
      go_roundw
      case rel => exact ⟨k / 128, _, by first | rfl | (congr 1; omega), by omega, bt.hide (hv.out.go_on hlt).1, HO.out, HB⟩
      case measure => simp [intOf] <;> omega
    · have hge : ¬ (127 : Int) < (k : Int) := by omega
      clear hlt hk h0 h1
      go_wp2_with (at_builtin; refine mem.wpList_append_bytes _ rfl _ _ 25 rfl base 5 i0 Try.underlying25 HI.out H0.out H1.out H2.out _ bs rfl ?d1 (wr.heap.size + 1) _ 1 1 [k] rfl rfl ?d2 ?d3 ?d4 ?_)
      case d1 => exact HOWN.out.keepB ((Below.refl _ _).alloc (Nat.le_refl _) _) (Nat.le_refl _)
      case d2 => exact mem.Rd.new wr _ _ _ (by simp; omega) (one_byte _ _ (by omega))
      case d3 => omega
      case d4 => first | omega | (simp; omega)
      intro v1 w1 hown1 hbel1
      have HO := bt.hide hown1
      have HB := bt.hide (hbel.out.trans (((Below.refl _ _).alloc (show base ≤ wr.heap.size by omega) _).trans hbel1))
      clear hown1 hbel1
      go_wp2_with fail
      go_ret
      exact ⟨v1, rfl, by rw [← hv.out.done (by omega)]; exact HO.out, HB.out⟩
theorem fix_snoc (v : Nat) (j : Nat) (k : Nat) : pl.fix v (j + (k + 1)) = pl.fix v j ++ (v / 256 ^ j % 256) :: pl.fix (v / 256 ^ (j + 1)) k := by
  induction j generalizing v with
  | zero => simp [pl.fix]
  | succ j ih =>
    rw [show j + 1 + (k + 1) = (j + (k + 1)) + 1 by omega, pl.fix, ih, pl.fix, Nat.div_div_eq_div_mul, Nat.div_div_eq_div_mul]
    rw [show 256 * 256 ^ j = 256 ^ (j + 1) by rw [Nat.pow_succ, Nat.mul_comm], show 256 * 256 ^ (j + 1) = 256 ^ (j + 1 + 1) by rw [Nat.pow_succ 256 (j + 1), Nat.mul_comm]]
    rfl
/-- What has been written, and what is left. -/
def FRel (v0 n m j : Nat) (bs : List Nat) : Prop := bs.length + j = n ∧ bs ++ pl.fix m j = pl.fix v0 n
theorem FRel.go_on {v0 n m j : Nat} {bs : List Nat} (h : FRel v0 n m (j + 1) bs) : FRel v0 n (m / 256) j (bs ++ [m % 256]) :=
  ⟨by have := h.1; simp; omega, by rw [← h.2, pl.fix]; simp⟩
set_option maxRecDepth 100000 in
set_option maxHeartbeats 400000 in
theorem sfix (base : Nat) (x : Int) (n : Nat) (w : World) (h0 : 0 ≤ x) (h1 : x < 18446744073709551616) (hn : n ≤ 8) (hb : base ≤ w.heap.size) :
    Calls Try.prog 35 #[.int .u64 x, .int .i64 n] w (mem.Gives w base 5 (pl.fix x.toNat n)) := by
  obtain ⟨v0, rfl⟩ := Int.eq_ofNat_of_zero_le h0
  rw [Int.toNat_natCast]
  obtain ⟨i0, hi, hz0, hz1, hz2⟩ := info_parts ap.info8
  have H0 := bt.hide hz0
  have H1 := bt.hide hz1
  have H2 := bt.hide hz2
  have HI := bt.hide hi
  have HS : Hid (FRel v0 n v0 n []) := bt.hide ⟨by simp, rfl⟩
  clear hz0 hz1 hz2 hi
  go_enter Try.func35, Try.ntmps35
  go_wp2_with fail
  go_loopw [0, 1, 5] (fun m c o wr => ∃ (k j : Nat) (bs : List Nat), m = .int .u64 k ∧ c = .int .i64 j ∧ j ≤ 8 ∧ k < 18446744073709551616 ∧ Hid (FRel v0 n k j bs) ∧ mem.Own wr base 5 o bs ∧ Hid (Below base w wr)) (fun _ c _ _ => (intOf c).toNat)
  case atStart => exact ⟨v0, n, [], rfl, rfl, hn, by omega, HS, mem.Own.empty w _ _ hb, bt.hide ((Below.refl _ _).alloc hb _)⟩
  case round =>
    obtain ⟨k, j, bs, rfl, rfl, hj, hk, hv, hown, hbel⟩ := hrel
    have HOWN := bt.hide hown
    have hbw := hbel.out.size
    have hbs : bs.length + j ≤ n := by have := hv.out.1; omega
    clear hown
    by_cases hlt : 0 < j
    · have hlt' : (0 : Int) < (j : Int) := by omega
      go_wp2_with (at_builtin; refine mem.wpList_append_bytes _ rfl _ _ 25 rfl base 5 i0 Try.underlying25 HI.out H0.out H1.out H2.out _ bs rfl ?c1 (wr.heap.size + 1) _ 1 1 [k % 256] rfl rfl ?c2 ?c3 ?c4 ?_)
      case c1 => exact HOWN.out.keepB ((Below.refl _ _).alloc (Nat.le_refl _) _) (Nat.le_refl _)
      case c2 => exact mem.Rd.new wr _ _ _ (by simp; omega) (one_byte _ _ (by omega))
      case c3 => omega
      case c4 => first | omega | (simp; omega)
      intro v1 w1 hown1 hbel1
      have HO := bt.hide hown1
      have HB := bt.hide (hbel.out.trans (((Below.refl _ _).alloc (show base ≤ wr.heap.size by omega) _).trans hbel1))
      clear hown1 hbel1
      go_wp2_with fail
      obtain ⟨j, rfl⟩ : ∃ i, j = i + 1 := ⟨j - 1, by omega⟩
      go_roundw
      case rel => exact ⟨k / 256, j, _, by first | rfl | (congr 1; omega), by first | rfl | (congr 1; omega), by omega, by omega, bt.hide hv.out.go_on, HO.out, HB⟩
      case measure => simp [intOf] <;> omega
    · obtain rfl : j = 0 := by omega
      go_wp2_with fail
      go_ret
      exact ⟨_, rfl, by have := hv.out.2; rw [pl.fix, List.append_nil] at this; rw [← this]; exact HOWN.out, hbel.out⟩
end Go.Proofs.Ytacdclkhhgjkbaa.sw
