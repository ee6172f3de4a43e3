/-
  Plain lists of numbers, no program in sight: fixed numbers that are written are read.
-/
import Derived.Test.YtacdclkhhgjkbaaTree
namespace Go.Proofs.Ytacdclkhhgjkbaa.pl

theorem leN_fix (k v : Nat) (more : List Nat) : leN k (fix v k ++ more) = v % 256 ^ k := by
  induction k generalizing v with
  | zero => rw [leN, Nat.pow_zero, Nat.mod_one]
  | succ k ih =>
    rw [fix, List.cons_append, leN, List.drop_succ_cons, List.drop_zero, ih, List.getD_cons_zero, Nat.pow_succ, Nat.mul_comm (256 ^ k) 256, Nat.mod_mul]
theorem leN_fix4 (v : Nat) (more : List Nat) (h : v < 4294967296) : leN 4 (fix v 4 ++ more) = v := by
  rw [leN_fix]
  exact Nat.mod_eq_of_lt h
theorem leN_fix8 (v : Nat) (more : List Nat) (h : v < 18446744073709551616) : leN 8 (fix v 8 ++ more) = v := by
  rw [leN_fix]
  exact Nat.mod_eq_of_lt h

end Go.Proofs.Ytacdclkhhgjkbaa.pl
