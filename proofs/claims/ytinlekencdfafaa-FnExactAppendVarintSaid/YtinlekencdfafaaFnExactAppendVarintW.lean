/-
  The walk of laws.FnExactAppendVarint returns true for every []byte and every uint64: a number is appended as its digits to the base 128. No condition.
-/
import Derived.Test.YtinlekencdfafaaRows
import Derived.WalkKit
import Derived.ProofKit
import Derived.OpenShut
import Derived.ShutString
import Derived.ChangeOld
import Derived.Below
import Derived.Test.YtinlekencdfafaaAppend2
import Derived.Test.YtinlekencdfafaaSpecW
import Derived.Test.YtinlekencdfafaaArg
import Derived.BigQuiet
import Derived.Deep.RegionWith
import Derived.Outline
namespace Go.Proofs.Ytinlekencdfafaa.fnExactAppendVarint
open Go.ChangeShapes Go.WideShapes Go.ChangeAt Go.RowKit
open Go.ChangeMaps (open_string shut_string)
set_option linter.unusedVariables false

def IsRow (k : IntKind) (w : World) (a : Option Addr) (len cap : Nat) (zs : List Int) : Prop :=
  (a = none ∧ len = 0 ∧ cap = 0 ∧ zs = []) ∨
  ∃ x, a = some x ∧ len ≤ cap ∧ cap ≤ maxLen ∧ zs.length = cap ∧ (∀ i, i < zs.length → w.cell? (x.add i) = some (.int k (zs.getD i 0))) ∧ ∀ n ∈ zs, (Lit.int k n).wf = true

set_option maxHeartbeats 4000000 in
theorem walk (a0 : Option Addr) (len0 cap0 : Nat) (z0 : List Int) (a1 : Int) (w : World) (w0 : IsRow .u8 w a0 len0 cap0 z0) (w1 : (Lit.int .u64 a1).wf = true) :
    Calls Try.prog 11 #[.slice a0 len0 cap0, .int .u64 a1] w fun e w' => e = .returned (.bool true) ∧ Below w.heap.size w w' := by
  obtain ⟨bs, hlen, hcap, hmax, hrd⟩ := mem.rd_of_row w0
  obtain ⟨h0, h1⟩ := bounds_u64 w1
  clear w0 w1
  by_cases hbig : 2147483647 < len0
  · have hb : (2147483647 : Int) < (len0 : Int) := by omega
    have HR := bt.hide hrd
    clear hrd hlen
    go_enter Try.func11, Try.ntmps11
    go_wp2
    go_ret
    exact ⟨rfl, Below.refl _ _⟩
  · have hb : ¬ (2147483647 : Int) < (len0 : Int) := by omega
    have hbs : bs.length ≤ 2147483647 := by omega
    have hel := pl.enc_len_le a1.toNat
    have K1 := bt.hide (fun (W : World) (hW : Below w.heap.size w W) => ap.iAppendVarint a0 bs len0 cap0 a1 W h0 (by omega) ((hrd.below hW).more hW.size) hlen.symm (by omega))
    have K2 := bt.hide (fun (W : World) => sw.svar W.heap.size a1 W h0 (by omega) (Nat.le_refl _))
    have C0 := bt.hide (fun (W : World) (hW : Below w.heap.size w W) => (hrd.below hW).conv (dst := 9) Try.underlying22 Try.underlying5 Try.underlying9 len0 cap0 hlen.symm)
    have c0 := C0.out w.drew (Below.refl _ _).drew
    have HE := bt.hide (mem.str_cat bs (pl.enc a1.toNat))
    have hns : ¬ 9223372036854775807 < (mem.str bs).size + (mem.str (pl.enc a1.toNat)).size := by rw [mem.str_size, mem.str_size]; omega
    clear hrd hlen hbig
    go_enter Try.func11, Try.ntmps11
    go_wp2_with fail
    go_region_with (first
      | (go_at_call 29; refine (K1.out _ (by first | exact (Below.refl _ _).drew | exact Below.refl _ _)).mono ?_; rintro e w1 ⟨v1, rfl, hown1, hbel1⟩; obtain ⟨A1, c1, rfl, hc1, hm1, hr1, _⟩ := hown1.form; have B1 := bt.hide ((Below.refl _ _).drew.trans hbel1); have e1 := C0.out w1 B1.out; have e2 := hr1.conv (dst := 9) Try.underlying22 Try.underlying5 Try.underlying9 (bs.length + (pl.enc a1.toNat).length) c1 (by simp); have R1 := bt.hide hr1; clear hown1 hbel1 hr1)
      | (go_at_call 23; refine (K2.out _).mono ?_; rintro e w2 ⟨v2, rfl, hown2, hbel2⟩; obtain ⟨A2, c2, rfl, hc2, hm2, hr2, _⟩ := hown2.form; have B2 := bt.hide (B1.out.trans (hbel2.mono B1.out.size)); have e3 := C0.out w2 B2.out; have e4 := (R1.out.below hbel2).conv (dst := 9) Try.underlying22 Try.underlying5 Try.underlying9 (bs.length + (pl.enc a1.toNat).length) c1 (by simp); have e5 := hr2.conv (dst := 9) Try.underlying22 Try.underlying5 Try.underlying9 _ c2 rfl; clear hown2 hbel2 hr2))
    all_goals
      rw [HE.out]
      go_wp2
      go_ret
      exact ⟨rfl, B2.out⟩

end Go.Proofs.Ytinlekencdfafaa.fnExactAppendVarint
