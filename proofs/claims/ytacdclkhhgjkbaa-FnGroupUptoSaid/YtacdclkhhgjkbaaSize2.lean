/-
  Contracts of the functions that tell the sizes of bytes, tags and groups.
-/
import Derived.Test.YtacdclkhhgjkbaaSize
namespace Go.Proofs.Ytacdclkhhgjkbaa.sz
open Go.RowKit
set_option linter.unusedVariables false

theorem wst (a : Int) (w : World) (h0 : 0 ≤ a) (h1 : a ≤ 2147483647) :
    Calls Try.prog 32 #[.int .i32 a] w fun e w' => e = .returned (.int .i64 ((pl.enc (a.toNat * 8)).length : Nat)) ∧ w = w' := by
  have K1 := bt.hide (fun (W : World) => pu.wtag a 0 W h0 h1 (by decide) (by decide))
  have K2 := bt.hide (fun (W : World) => wsv (a * 8 + 0) W (by omega) (by omega))
  have e : (a * 8 + 0).toNat = a.toNat * 8 := by omega
  rw [e] at K2
  clear e
  generalize (pl.enc (a.toNat * 8)).length = s at *
  go_enter Try.func32, Try.ntmps32
  go_wp2_with fail
  refine (K1.out _).mono ?_
  rintro e w' ⟨rfl, rfl⟩
  go_wp2_with fail
  rw [show a * 8 = a * 8 + 0 by omega]
  refine (K2.out _).mono ?_
  rintro e w' ⟨rfl, rfl⟩
  go_wp2_with fail
  go_ret
  exact ⟨rfl, rfl⟩
theorem wsg (a n : Int) (w : World) (h0 : 0 ≤ a) (h1 : a ≤ 2147483647) (h2 : 0 ≤ n) (h3 : n ≤ 4611686018427387904) :
    Calls Try.prog 29 #[.int .i32 a, .int .i64 n] w fun e w' => e = .returned (.int .i64 (n + ((pl.enc (a.toNat * 8)).length : Nat))) ∧ w = w' := by
  have K := bt.hide (wst a w h0 h1)
  have hl := pl.enc_len_le (a.toNat * 8)
  generalize (pl.enc (a.toNat * 8)).length = s at *
  go_enter Try.func29, Try.ntmps29
  go_wp2_with fail
  refine (K.out).mono ?_
  rintro e w' ⟨rfl, rfl⟩
  go_wp2_with fail
  go_ret
  exact ⟨rfl, rfl⟩
theorem isg (a n : Int) (w : World) (h0 : 0 ≤ a) (h1 : a ≤ 2147483647) (h2 : 0 ≤ n) (h3 : n ≤ 4611686018427387904) :
    Calls Try.prog 20 #[.int .i32 a, .int .i64 n] w fun e w' => e = .returned (.int .i64 (n + ((pl.enc (a.toNat * 8)).length : Nat))) ∧ w = w' := by
  have K := bt.hide (wsg a n w h0 h1 h2 h3)
  generalize (pl.enc (a.toNat * 8)).length = s at *
  go_enter Try.func20, Try.ntmps20
  go_wp2_with fail
  refine (K.out).mono ?_
  rintro e w' ⟨rfl, rfl⟩
  go_wp2_with fail
  go_ret
  exact ⟨rfl, rfl⟩
end Go.Proofs.Ytacdclkhhgjkbaa.sz
