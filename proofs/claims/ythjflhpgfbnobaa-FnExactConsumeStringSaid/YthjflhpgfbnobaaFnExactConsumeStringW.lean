/-
  The walk of laws.FnExactConsumeString returns true for every []byte: a text is parsed as bytes are. No condition.
-/
import Derived.Test.YthjflhpgfbnobaaRows
import Derived.WalkKit
import Derived.ProofKit
import Derived.OpenShut
import Derived.ShutString
import Derived.ChangeOld
import Derived.Below
import Derived.Test.YthjflhpgfbnobaaSpecR2
import Derived.Test.YthjflhpgfbnobaaBetween
namespace Go.Proofs.Ythjflhpgfbnobaa.fnExactConsumeString
open Go.ChangeShapes Go.WideShapes Go.ChangeAt Go.RowKit
open Go.ChangeMaps (open_string shut_string)
set_option linter.unusedVariables false

def IsRow (k : IntKind) (w : World) (a : Option Addr) (len cap : Nat) (zs : List Int) : Prop :=
  (a = none ∧ len = 0 ∧ cap = 0 ∧ zs = []) ∨
  ∃ x, a = some x ∧ len ≤ cap ∧ cap ≤ maxLen ∧ zs.length = cap ∧ (∀ i, i < zs.length → w.cell? (x.add i) = some (.int k (zs.getD i 0))) ∧ ∀ n ∈ zs, (Lit.int k n).wf = true

theorem walk (a0 : Option Addr) (len0 cap0 : Nat) (z0 : List Int) (w : World) (w0 : IsRow .u8 w a0 len0 cap0 z0) :
    Calls Try.prog 10 #[.slice a0 len0 cap0] w fun e w' => e = .returned (.bool true) ∧ Below w.heap.size w w' := by
  obtain ⟨bs, hlen, hcap, hmax, hrd⟩ := mem.rd_of_row w0
  clear w0
  by_cases hbig : 2147483647 < len0
  · have hb : (2147483647 : Int) < (len0 : Int) := by omega
    have HR := bt.hide hrd
    clear hrd hlen
    go_enter Try.func10, Try.ntmps10
    go_wp2
    go_ret
    exact ⟨rfl, Below.refl _ _⟩
  · have hb : ¬ (2147483647 : Int) < (len0 : Int) := by omega
    have hm9 : len0 ≤ 9223372036854775807 := by omega
    rcases hv : pl.rbytes bs with _ | ⟨a, e⟩
    · have K1 := bt.hide (co.ics_no a0 len0 cap0 bs _ w hrd hlen.symm hcap hmax hv)
      have K2 := bt.hide (co.icb_no a0 len0 cap0 bs w hrd hlen.symm hcap hmax hv)
      clear hrd hlen hv
      go_enter Try.func10, Try.ntmps10
      go_wp2_with fail
      refine (K1.out).mono ?_
      rintro e w1 ⟨k1, rfl, rfl, hk1⟩
      have hd1 : decide (k1 < 0) = true := by simpa using hk1
      go_wp2_with fail
      refine (K2.out).mono ?_
      rintro e w1 ⟨k, ⟨v1, rfl, hown1, hbel1⟩, hk⟩
      have hd2 : decide (k < 0) = true := by simpa using hk
      have B1 := bt.hide hbel1
      clear hown1 hbel1
      go_wp2_with fail
      refine (co.works _).mono ?_
      rintro e w4 ⟨rfl, hb4⟩
      have HB4 := bt.hide (B1.out.trans (hb4.mono B1.out.size))
      clear hb4
      go_wp2_with fail
      go_ret
      exact ⟨rfl, HB4.out⟩
    · have K1 := bt.hide (co.ics_yes a0 len0 cap0 bs _ w a e hrd hlen.symm hcap hmax hv)
      have K2 := bt.hide (co.icb_yes a0 len0 cap0 bs w a e hrd hlen.symm hcap hmax (by omega) hv)
      clear hrd hlen hv
      generalize (bs.drop a).take (e - a) = X at *
      have hd : ((mem.str X).toList == (mem.str X).toList) = true := by simp
      have hd1 : decide ((e : Int) < 0) = false := by simp
      have he : ¬ (e : Int) < 0 := by omega
      go_enter Try.func10, Try.ntmps10
      go_wp2_with fail
      refine (K1.out).mono ?_
      rintro e w1 ⟨rfl, rfl⟩
      go_wp2_with fail
      refine (K2.out).mono ?_
      rintro e w1 ⟨v1, rfl, hown1, hbel1⟩
      obtain ⟨A1, c1, rfl, hc1, hm1, hr1, _⟩ := hown1.form
      have d1 := hr1.conv (dst := 9) Try.underlying22 Try.underlying5 Try.underlying9 _ c1 rfl
      have B1 := bt.hide hbel1
      clear hown1 hbel1 hr1
      go_wp2_with fail
      refine (co.works _).mono ?_
      rintro e w4 ⟨rfl, hb4⟩
      have HB4 := bt.hide (B1.out.trans (hb4.mono B1.out.size))
      clear hb4
      go_wp2_with fail
      go_ret
      exact ⟨rfl, HB4.out⟩

end Go.Proofs.Ythjflhpgfbnobaa.fnExactConsumeString
