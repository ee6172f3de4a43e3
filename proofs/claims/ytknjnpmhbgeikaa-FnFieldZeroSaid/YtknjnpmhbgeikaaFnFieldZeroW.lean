/-
  The walk of laws.FnFieldZero returns true for every int8 and []byte: a field of the number 0 is an error. No condition.
-/
import Derived.Test.YtknjnpmhbgeikaaRows
import Derived.WalkKit
import Derived.ProofKit
import Derived.OpenShut
import Derived.ShutString
import Derived.ChangeOld
import Derived.Below
import Derived.Test.YtknjnpmhbgeikaaVal
import Derived.Test.YtknjnpmhbgeikaaRead
import Derived.Test.YtknjnpmhbgeikaaArg
import Derived.Test.YtknjnpmhbgeikaaOwnNew
import Derived.Test.YtknjnpmhbgeikaaTree
import Derived.Test.YtknjnpmhbgeikaaSpecW
namespace Go.Proofs.Ytknjnpmhbgeikaa.fnFieldZero
open Go.ChangeShapes Go.WideShapes Go.ChangeAt Go.RowKit
open Go.ChangeMaps (open_string shut_string)
set_option linter.unusedVariables false

def IsRow (k : IntKind) (w : World) (a : Option Addr) (len cap : Nat) (zs : List Int) : Prop :=
  (a = none ∧ len = 0 ∧ cap = 0 ∧ zs = []) ∨
  ∃ x, a = some x ∧ len ≤ cap ∧ cap ≤ maxLen ∧ zs.length = cap ∧ (∀ i, i < zs.length → w.cell? (x.add i) = some (.int k (zs.getD i 0))) ∧ ∀ n ∈ zs, (Lit.int k n).wf = true

theorem walk (a0 : Int) (a1 : Option Addr) (len1 cap1 : Nat) (z1 : List Int) (w : World) (w0 : (Lit.int .i8 a0).wf = true) (w1 : IsRow .u8 w a1 len1 cap1 z1) :
    Calls Try.prog 9 #[.int .i8 a0, .slice a1 len1 cap1] w fun e w' => e = .returned (.bool true) ∧ Below w.heap.size w w' := by
  obtain ⟨ms, hlen, hcap, hmax, hrd⟩ := mem.rd_of_row w1
  by_cases hbig : 2147483647 < len1
  · have hb : (2147483647 : Int) < (len1 : Int) := by omega
    have HR := bt.hide hrd
    clear hrd hlen w0 w1
    go_enter Try.func9, Try.ntmps9
    go_wp2
    go_ret
    exact ⟨rfl, Below.refl _ _⟩
  have hb : ¬ (2147483647 : Int) < (len1 : Int) := by omega
  by_cases g2 : a0 < 0
  · have hd : decide (a0 < 0) = true := by simpa using g2
    have HR := bt.hide hrd
    clear hrd hlen w0 w1
    go_enter Try.func9, Try.ntmps9
    go_wp2
    go_ret
    exact ⟨rfl, Below.refl _ _⟩
  have hd : decide (a0 < 0) = false := by simpa using g2
  by_cases g3 : 7 < a0
  · have hd2 : decide (7 < a0) = true := by simpa using g3
    have HR := bt.hide hrd
    clear hrd hlen w0 w1
    go_enter Try.func9, Try.ntmps9
    go_wp2
    go_ret
    exact ⟨rfl, Below.refl _ _⟩
  have hd2 : decide (7 < a0) = false := by simpa using g3
  obtain ⟨kd, rfl⟩ := Int.eq_ofNat_of_zero_le (show 0 ≤ a0 by omega)
  have HT := bt.hide (mem.rtag_zero kd ms (by omega))
  obtain ⟨i0, hi, hz0, hz1, hz2⟩ := info_parts co.info8
  have HM := bt.hide hrd
  have HLM := bt.hide hlen
  have H0 := bt.hide hz0
  have H1 := bt.hide hz1
  have H2 := bt.hide hz2
  have HI := bt.hide hi
  have B0 := bt.hide (Below.refl w.heap.size w)
  have B0s := bt.hide (Nat.le_refl w.heap.size)
  clear hz0 hz1 hz2 hi hrd hlen w0 w1
  go_enter Try.func9, Try.ntmps9
  go_wp2_with (at_builtin; refine mem.wpList_append_bytes _ rfl _ _ 23 rfl w.heap.size 5 i0 Try.underlying23 HI.out H0.out H1.out H2.out _ [kd] rfl ?c1 w.heap.size a1 len1 cap1 ms rfl HLM.out.symm ?c2 ?c3 ?c4 ?_)
  case c1 => exact mem.Own.new w w.heap.size 5 _ [kd] B0s.out (by simp; omega) (by simp [maxLen]) rfl
  case c2 => exact HM.out.below (B0.out.trans ((Below.refl _ _).alloc B0s.out _))
  case c3 => first | omega | (simp; omega)
  intro v1 w1 hown hbel
  obtain ⟨A1, c1, rfl, hc1, hm1, hr1, _⟩ := hown.form
  have B1 := bt.hide (B0.out.trans (((Below.refl _ _).alloc B0s.out _).trans hbel))
  have B1s := bt.hide (show w.heap.size ≤ w1.heap.size from B1.out.size)
  clear hown hbel
  have K1 := bt.hide (va.icfl A1 _ c1 _ w1 hr1 rfl hc1 hm1)
  rw [va.F_none HT.out] at K1
  simp only [List.length_cons, HLM.out] at K1 ⊢
  clear hr1
  go_wp2_with fail
  refine (K1.out).mono ?_
  rintro e w2 ⟨x, y, n, rfl, hb2, hok⟩
  have hn0 : n < 0 := hok
  have B2 := bt.hide (B1.out.trans (hb2.mono B1s.out))
  have B2s := bt.hide (show w.heap.size ≤ w2.heap.size from B2.out.size)
  clear hb2 hok
  go_wp2_with (at_builtin; refine mem.wpList_append_bytes _ rfl _ _ 23 rfl w.heap.size 5 i0 Try.underlying23 HI.out H0.out H1.out H2.out _ [kd] rfl ?d1 w.heap.size a1 len1 cap1 ms rfl HLM.out.symm ?d2 ?d3 ?d4 ?_)
  case d1 => exact mem.Own.new w2 w.heap.size 5 _ [kd] B2s.out (by simp; omega) (by simp [maxLen]) rfl
  case d2 => exact HM.out.below (B2.out.trans ((Below.refl _ _).alloc B2s.out _))
  case d3 => first | omega | (simp; omega)
  case d4 => have := B2s.out; first | omega | (simp; omega)
  intro v3 w3 hown hbel
  obtain ⟨A3, c3, rfl, hc3, hm3, hr3, _⟩ := hown.form
  have B3 := bt.hide (B2.out.trans (((Below.refl _ _).alloc B2s.out _).trans hbel))
  have B3s := bt.hide (show w.heap.size ≤ w3.heap.size from B3.out.size)
  clear hown hbel
  have K3 := bt.hide (co.ict_no A3 _ c3 _ _ w3 hr3 rfl (by have := HLM.out; simp; omega) HT.out)
  simp only [List.length_cons, HLM.out] at K3 ⊢
  clear hr3
  go_wp2_with fail
  refine (K3.out).mono ?_
  rintro e w4 ⟨k, rfl, rfl, hk, _⟩
  go_wp2_with fail
  go_ret
  exact ⟨rfl, B3.out⟩

end Go.Proofs.Ytknjnpmhbgeikaa.fnFieldZero
