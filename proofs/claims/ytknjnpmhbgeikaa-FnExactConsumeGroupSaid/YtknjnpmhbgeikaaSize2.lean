/-
  Contracts of the functions that tell the sizes of bytes, tags and groups.
-/
import Derived.Test.YtknjnpmhbgeikaaSize
namespace Go.Proofs.Ytknjnpmhbgeikaa.sz
open Go.RowKit
set_option linter.unusedVariables false

theorem isv (x : Int) (w : World) (h0 : 0 ≤ x) (h1 : x < 18446744073709551616) :
    Calls Try.prog 16 #[.int .u64 x] w fun e w' => e = .returned (.int .i64 ((pl.enc x.toNat).length : Nat)) ∧ w = w' := by
  have K := bt.hide (wsv x w h0 h1)
  generalize (pl.enc x.toNat).length = s at *
  go_enter Try.func16, Try.ntmps16
  go_wp2_with fail
  refine (K.out).mono ?_
  rintro e w' ⟨rfl, rfl⟩
  go_wp2_with fail
  go_ret
  exact ⟨rfl, rfl⟩
theorem wsb (x : Int) (w : World) (h0 : 0 ≤ x) (h1 : x ≤ 1099511627776) :
    Calls Try.prog 38 #[.int .i64 x] w fun e w' => e = .returned (.int .i64 (((pl.enc x.toNat).length : Nat) + x)) ∧ w = w' := by
  have K := bt.hide (wsv x w h0 (by omega))
  have hl := pl.enc_len_le x.toNat
  generalize (pl.enc x.toNat).length = s at *
  go_enter Try.func38, Try.ntmps38
  go_wp2_with fail
  refine (K.out).mono ?_
  rintro e w' ⟨rfl, rfl⟩
  go_wp2_with fail
  go_ret
  exact ⟨rfl, rfl⟩
theorem isb (x : Int) (w : World) (h0 : 0 ≤ x) (h1 : x ≤ 1099511627776) :
    Calls Try.prog 19 #[.int .i64 x] w fun e w' => e = .returned (.int .i64 (((pl.enc x.toNat).length : Nat) + x)) ∧ w = w' := by
  have K := bt.hide (wsb x w h0 h1)
  generalize (pl.enc x.toNat).length = s at *
  go_enter Try.func19, Try.ntmps19
  go_wp2_with fail
  refine (K.out).mono ?_
  rintro e w' ⟨rfl, rfl⟩
  go_wp2_with fail
  go_ret
  exact ⟨rfl, rfl⟩
theorem wst (a : Int) (w : World) (h0 : 0 ≤ a) (h1 : a ≤ 2147483647) :
    Calls Try.prog 41 #[.int .i32 a] w fun e w' => e = .returned (.int .i64 ((pl.enc (a.toNat * 8)).length : Nat)) ∧ w = w' := by
  have K1 := bt.hide (fun (W : World) => pu.wtag a 0 W h0 h1 (by decide) (by decide))
  have K2 := bt.hide (fun (W : World) => wsv (a * 8 + 0) W (by omega) (by omega))
  have e : (a * 8 + 0).toNat = a.toNat * 8 := by omega
  rw [e] at K2
  clear e
  generalize (pl.enc (a.toNat * 8)).length = s at *
  go_enter Try.func41, Try.ntmps41
  go_wp2_with fail
  refine (K1.out _).mono ?_
  rintro e w' ⟨rfl, rfl⟩
  go_wp2_with fail
  rw [show a * 8 = a * 8 + 0 by omega]
  refine (K2.out _).mono ?_
  rintro e w' ⟨rfl, rfl⟩
  go_wp2_with fail
  go_ret
  exact ⟨rfl, rfl⟩
theorem ist (a : Int) (w : World) (h0 : 0 ≤ a) (h1 : a ≤ 2147483647) :
    Calls Try.prog 23 #[.int .i32 a] w fun e w' => e = .returned (.int .i64 ((pl.enc (a.toNat * 8)).length : Nat)) ∧ w = w' := by
  have K := bt.hide (wst a w h0 h1)
  generalize (pl.enc (a.toNat * 8)).length = s at *
  go_enter Try.func23, Try.ntmps23
  go_wp2_with fail
  refine (K.out).mono ?_
  rintro e w' ⟨rfl, rfl⟩
  go_wp2_with fail
  go_ret
  exact ⟨rfl, rfl⟩
end Go.Proofs.Ytknjnpmhbgeikaa.sz
