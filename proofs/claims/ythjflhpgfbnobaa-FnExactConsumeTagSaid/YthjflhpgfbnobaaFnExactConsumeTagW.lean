/-
  The walk of laws.FnExactConsumeTag returns true for every []byte: a tag is parsed as the reference reads it; the error is told by a negative length. No condition.
-/
import Derived.Test.YthjflhpgfbnobaaRows
import Derived.WalkKit
import Derived.ProofKit
import Derived.OpenShut
import Derived.ShutString
import Derived.ChangeOld
import Derived.Below
import Derived.Test.YthjflhpgfbnobaaSpecR2
import Derived.Outline
namespace Go.Proofs.Ythjflhpgfbnobaa.fnExactConsumeTag
open Go.ChangeShapes Go.WideShapes Go.ChangeAt Go.RowKit
open Go.ChangeMaps (open_string shut_string)
set_option linter.unusedVariables false

def IsRow (k : IntKind) (w : World) (a : Option Addr) (len cap : Nat) (zs : List Int) : Prop :=
  (a = none ∧ len = 0 ∧ cap = 0 ∧ zs = []) ∨
  ∃ x, a = some x ∧ len ≤ cap ∧ cap ≤ maxLen ∧ zs.length = cap ∧ (∀ i, i < zs.length → w.cell? (x.add i) = some (.int k (zs.getD i 0))) ∧ ∀ n ∈ zs, (Lit.int k n).wf = true

theorem walk (a0 : Option Addr) (len0 cap0 : Nat) (z0 : List Int) (w : World) (w0 : IsRow .u8 w a0 len0 cap0 z0) :
    Calls Try.prog 11 #[.slice a0 len0 cap0] w fun e w' => e = .returned (.bool true) ∧ Below w.heap.size w w' := by
  obtain ⟨bs, hlen, hcap, hmax, hrd⟩ := mem.rd_of_row w0
  clear w0
  by_cases hbig : 2147483647 < len0
  · have hb : (2147483647 : Int) < (len0 : Int) := by omega
    have HR := bt.hide hrd
    clear hrd hlen
    go_enter Try.func11, Try.ntmps11
    go_wp2
    go_ret
    exact ⟨rfl, Below.refl _ _⟩
  · have hb : ¬ (2147483647 : Int) < (len0 : Int) := by omega
    have hm9 : len0 ≤ 9223372036854775807 := by omega
    rcases hv : pl.rtag bs with _ | ⟨a, k, m⟩
    · have K1 := bt.hide (co.ict_no a0 len0 cap0 bs _ w hrd hlen.symm hm9 hv)
      have K2 := bt.hide (sr.srt_no a0 len0 cap0 bs _ w hrd hlen.symm hm9 hv)
      clear hrd hlen hv
      go_enter Try.func11, Try.ntmps11
      go_wp2_with fail
      refine (K1.out).mono ?_
      rintro e w1 ⟨k, rfl, rfl, hk, hk2⟩
      go_wp2_with fail
      refine (K2.out).mono ?_
      rintro e w1 ⟨rfl, rfl⟩
      go_wp2_with fail
      refine (co.works _).mono ?_
      rintro e w1 ⟨rfl, hb1⟩
      have HB1 := bt.hide hb1
      clear hb1
      go_wp2_with fail
      go_ret
      exact ⟨rfl, HB1.out⟩
    · have K1 := bt.hide (co.ict_yes a0 len0 cap0 bs _ w a k m hrd hlen.symm hm9 hv)
      have K2 := bt.hide (sr.srt_yes a0 len0 cap0 bs _ w a k m hrd hlen.symm hm9 hv)
      clear hrd hlen hv
      go_enter Try.func11, Try.ntmps11
      go_wp2_with fail
      refine (K1.out).mono ?_
      rintro e w1 ⟨rfl, rfl⟩
      go_wp2_with fail
      refine (K2.out).mono ?_
      rintro e w1 ⟨rfl, rfl⟩
      go_wp2_with fail
      go_ret
      exact ⟨by simp, Below.refl _ _⟩

end Go.Proofs.Ythjflhpgfbnobaa.fnExactConsumeTag
