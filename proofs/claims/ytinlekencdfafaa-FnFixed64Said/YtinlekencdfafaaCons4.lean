/-
  Contracts of the thin package's parsing functions, and of ConsumeTag, ConsumeString.
-/
import Derived.Test.YtinlekencdfafaaCons3
namespace Go.Proofs.Ytinlekencdfafaa.co
open Go.RowKit
set_option linter.unusedVariables false

theorem icf32_no (A : Option Addr) (n c : Nat) (w : World) (hn : n < 4) :
    Calls Try.prog 18 #[.slice A n c] w fun e w' => e = .returned (.tuple #[.int .u32 0, .int .i64 (-1)]) ∧ w = w' := by
  have K := bt.hide (wcf32_no A n c w hn)
  clear hn
  go_enter Try.func18, Try.ntmps18
  go_wp2_with fail
  refine (K.out).mono ?_
  rintro e w' ⟨rfl, rfl⟩
  go_wp2_with fail
  go_ret2
  exact ⟨rfl, rfl⟩
theorem icf32_yes (A : Option Addr) (n c : Nat) (bs : List Nat) (B : Nat) (w : World) (hr : mem.Rd w B A bs) (hn : n = bs.length) (h4 : 4 ≤ n) (hm : n ≤ 9223372036854775807) :
    Calls Try.prog 18 #[.slice A n c] w fun e w' => e = .returned (.tuple #[.int .u32 (pl.leN 4 bs : Nat), .int .i64 4]) ∧ Below w.heap.size w w' := by
  have K := bt.hide (wcf32_yes A n c bs B w hr hn h4 hm)
  clear hn hr
  go_enter Try.func18, Try.ntmps18
  go_wp2_with fail
  refine (K.out).mono ?_
  rintro e w' ⟨rfl, hb⟩
  have HB := bt.hide hb
  clear hb
  go_wp2_with fail
  go_ret2
  exact ⟨rfl, HB.out⟩
theorem icf64_no (A : Option Addr) (n c : Nat) (w : World) (hn : n < 8) :
    Calls Try.prog 20 #[.slice A n c] w fun e w' => e = .returned (.tuple #[.int .u64 0, .int .i64 (-1)]) ∧ w = w' := by
  have K := bt.hide (wcf64_no A n c w hn)
  clear hn
  go_enter Try.func20, Try.ntmps20
  go_wp2_with fail
  refine (K.out).mono ?_
  rintro e w' ⟨rfl, rfl⟩
  go_wp2_with fail
  go_ret2
  exact ⟨rfl, rfl⟩
theorem icf64_yes (A : Option Addr) (n c : Nat) (bs : List Nat) (B : Nat) (w : World) (hr : mem.Rd w B A bs) (hn : n = bs.length) (h4 : 8 ≤ n) (hm : n ≤ 9223372036854775807) :
    Calls Try.prog 20 #[.slice A n c] w fun e w' => e = .returned (.tuple #[.int .u64 (pl.leN 8 bs : Nat), .int .i64 8]) ∧ Below w.heap.size w w' := by
  have K := bt.hide (wcf64_yes A n c bs B w hr hn h4 hm)
  clear hn hr
  go_enter Try.func20, Try.ntmps20
  go_wp2_with fail
  refine (K.out).mono ?_
  rintro e w' ⟨rfl, hb⟩
  have HB := bt.hide hb
  clear hb
  go_wp2_with fail
  go_ret2
  exact ⟨rfl, HB.out⟩

end Go.Proofs.Ytinlekencdfafaa.co
