/-
  The walk of laws.FnExactConsumeFixed64 returns true for every []byte: a number is parsed of 8 bytes; fewer are an error. No condition.
-/
import Derived.Test.YthjflhpgfbnobaaRows
import Derived.WalkKit
import Derived.ProofKit
import Derived.OpenShut
import Derived.ShutString
import Derived.ChangeOld
import Derived.Below
import Derived.Test.YthjflhpgfbnobaaSpecR2
import Derived.Outline
namespace Go.Proofs.Ythjflhpgfbnobaa.fnExactConsumeFixed64
open Go.ChangeShapes Go.WideShapes Go.ChangeAt Go.RowKit
open Go.ChangeMaps (open_string shut_string)
set_option linter.unusedVariables false

def IsRow (k : IntKind) (w : World) (a : Option Addr) (len cap : Nat) (zs : List Int) : Prop :=
  (a = none ∧ len = 0 ∧ cap = 0 ∧ zs = []) ∨
  ∃ x, a = some x ∧ len ≤ cap ∧ cap ≤ maxLen ∧ zs.length = cap ∧ (∀ i, i < zs.length → w.cell? (x.add i) = some (.int k (zs.getD i 0))) ∧ ∀ n ∈ zs, (Lit.int k n).wf = true

theorem walk (a0 : Option Addr) (len0 cap0 : Nat) (z0 : List Int) (w : World) (w0 : IsRow .u8 w a0 len0 cap0 z0) :
    Calls Try.prog 7 #[.slice a0 len0 cap0] w fun e w' => e = .returned (.bool true) ∧ Below w.heap.size w w' := by
  obtain ⟨bs, hlen, hcap, hmax, hrd⟩ := mem.rd_of_row w0
  clear w0
  by_cases hbig : 2147483647 < len0
  · have hb : (2147483647 : Int) < (len0 : Int) := by omega
    have HR := bt.hide hrd
    clear hrd hlen
    go_enter Try.func7, Try.ntmps7
    go_wp2
    go_ret
    exact ⟨rfl, Below.refl _ _⟩
  · have hb : ¬ (2147483647 : Int) < (len0 : Int) := by omega
    have hm9 : len0 ≤ 9223372036854775807 := by omega
    by_cases h4 : len0 < 8
    · have K1 := bt.hide (co.icf64_no a0 len0 cap0 w h4)
      have K2 := bt.hide (sr.srf_no a0 len0 cap0 8 w h4 (by decide))
      clear hrd hlen h4
      go_enter Try.func7, Try.ntmps7
      go_wp2_with fail
      refine (K1.out).mono ?_
      rintro e w1 ⟨rfl, rfl⟩
      go_wp2_with fail
      refine (K2.out).mono ?_
      rintro e w1 ⟨rfl, rfl⟩
      go_wp2_with fail
      refine (co.works _).mono ?_
      rintro e w1 ⟨rfl, hb1⟩
      have HB1 := bt.hide hb1
      clear hb1
      go_wp2_with fail
      go_ret
      exact ⟨rfl, HB1.out⟩
    · have K1 := bt.hide (co.icf64_yes a0 len0 cap0 bs _ w hrd hlen.symm (by omega) hm9)
      have K2 := bt.hide (fun (W : World) (hW : Below w.heap.size w W) => sr.srf_yes a0 len0 cap0 8 bs _ W (hrd.below hW) hlen.symm (by omega) (by decide) (by decide) hm9)
      have hlt := pl.leN_lt 8 bs hrd.byte
      generalize pl.leN 8 bs = V at *
      have hV : (V : Int) < 18446744073709551616 := by omega
      clear hrd hlen h4 hlt
      go_enter Try.func7, Try.ntmps7
      go_wp2_with fail
      refine (K1.out).mono ?_
      rintro e w1 ⟨rfl, hb1⟩
      have HB1 := bt.hide hb1
      clear hb1
      go_wp2_with fail
      refine (K2.out _ HB1.out).mono ?_
      rintro e w2 ⟨rfl, rfl⟩
      go_wp2_with fail
      go_ret
      exact ⟨by simp, HB1.out⟩

end Go.Proofs.Ythjflhpgfbnobaa.fnExactConsumeFixed64
