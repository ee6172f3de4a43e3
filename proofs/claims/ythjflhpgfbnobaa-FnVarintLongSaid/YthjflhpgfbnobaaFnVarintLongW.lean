/-
  The walk of laws.FnVarintLong returns true for every []byte: ten bytes that are at least 128 are an error, whatever stands behind them. No condition.
-/
import Derived.Test.YthjflhpgfbnobaaRows
import Derived.WalkKit
import Derived.ProofKit
import Derived.OpenShut
import Derived.ShutString
import Derived.ChangeOld
import Derived.Below
import Derived.Test.YthjflhpgfbnobaaCons3
import Derived.Test.YthjflhpgfbnobaaStore
import Derived.OpenShut
namespace Go.Proofs.Ythjflhpgfbnobaa.fnVarintLong
open Go.ChangeShapes Go.WideShapes Go.ChangeAt Go.RowKit
open Go.ChangeMaps (open_string shut_string)
set_option linter.unusedVariables false

def IsRow (k : IntKind) (w : World) (a : Option Addr) (len cap : Nat) (zs : List Int) : Prop :=
  (a = none ∧ len = 0 ∧ cap = 0 ∧ zs = []) ∨
  ∃ x, a = some x ∧ len ≤ cap ∧ cap ≤ maxLen ∧ zs.length = cap ∧ (∀ i, i < zs.length → w.cell? (x.add i) = some (.int k (zs.getD i 0))) ∧ ∀ n ∈ zs, (Lit.int k n).wf = true

/-- The first j bytes with their top bit set. -/
def orF (bs : List Nat) (j : Nat) : List Nat := (bs.take j).map (fun b => b ||| 128) ++ bs.drop j
theorem orF_len (bs : List Nat) (j : Nat) : (orF bs j).length = bs.length := by simp [orF]; omega
theorem orF_at (bs : List Nat) (j : Nat) (hj : j < bs.length) : (orF bs j).getD j 0 = bs[j] := by
  have h1 : ((bs.take j).map (fun b => b ||| 128)).length = j := by simp; omega
  rw [orF, List.getD_eq_getElem?_getD, List.getElem?_append_right (by omega), h1, Nat.sub_self, List.getElem?_drop, Nat.add_zero, List.getElem?_eq_getElem hj]
  rfl
theorem orF_set (bs : List Nat) (j : Nat) (hj : j < bs.length) : (orF bs j).set j (bs[j] ||| 128) = orF bs (j + 1) := by
  have h1 : ((bs.take j).map (fun b => b ||| 128)).length = j := by simp; omega
  rw [orF, orF, List.set_append_right _ _ (by omega), h1, Nat.sub_self, List.drop_eq_getElem_cons hj, List.set_cons_zero, List.take_succ_eq_append_getElem hj]
  simp only [List.map_append, List.map_cons, List.map_nil, List.append_assoc, List.cons_append, List.nil_append]
theorem or_u8 (x : Nat) (h : x < 256) : bits .or .u8 (x : Int) 128 = ((x ||| 128 : Nat) : Int) := by
  exact (bits_nat .u8 8 (by decide) (fun n h0 h1 => by simp [IntKind.wrap, IntKind.bits, IntKind.signed]; omega) x 128 (by omega) (by decide)).2
theorem or128 (b : Nat) (h : b < 256) : 128 ≤ b ||| 128 ∧ b ||| 128 < 256 := ⟨Nat.right_le_or, Nat.or_lt_two_pow (n := 8) h (by decide)⟩

theorem walk (a0 : Option Addr) (len0 cap0 : Nat) (z0 : List Int) (w : World) (w0 : IsRow .u8 w a0 len0 cap0 z0) :
    Calls Try.prog 4 #[.slice a0 len0 cap0] w fun e w' => e = .returned (.bool true) ∧ Below w.heap.size w w' := by
  obtain ⟨bs, hlen, hcap, hmax, hrd⟩ := mem.rd_of_row w0
  clear w0
  by_cases hbig : 2147483647 < len0
  · have hb : (2147483647 : Int) < (len0 : Int) := by omega
    have HR := bt.hide hrd
    clear hrd hlen
    go_enter Try.func4, Try.ntmps4
    go_wp2
    go_ret
    exact ⟨rfl, Below.refl _ _⟩
  have hb : ¬ (2147483647 : Int) < (len0 : Int) := by omega
  by_cases hten : len0 < 10
  · have hb2 : (len0 : Int) < 10 := by omega
    have HR := bt.hide hrd
    clear hrd hlen
    go_enter Try.func4, Try.ntmps4
    go_wp2
    go_ret
    exact ⟨rfl, Below.refl _ _⟩
  have hb2 : ¬ (len0 : Int) < 10 := by omega
  obtain ⟨i0, hi, hz0, hz1, hz2⟩ := info_parts co.info8
  have HM := bt.hide hrd
  have HLM := bt.hide hlen
  have H0 := bt.hide hz0
  have H1 := bt.hide hz1
  have H2 := bt.hide hz2
  have HI := bt.hide hi
  clear hz0 hz1 hz2 hi hrd hlen
  go_enter Try.func4, Try.ntmps4
  go_wp2_with (at_builtin; refine mem.wpList_append_bytes _ rfl _ _ 22 rfl w.heap.size 5 i0 Try.underlying22 HI.out H0.out H1.out H2.out _ [] rfl (mem.Own.empty w _ _ (Nat.le_refl _)) w.heap.size a0 _ cap0 bs rfl HLM.out.symm ?c2 ?c3 ?c4 ?_)
  case c2 => exact HM.out.below ((Below.refl _ _).alloc (Nat.le_refl _) _)
  case c3 => omega
  intro v2 w2 hown2 hbel2
  try simp only [List.nil_append] at hown2
  obtain ⟨g, c, rfl, hg, hgw⟩ := hown2.shape (by have := HLM.out; omega)
  rw [HLM.out] at hown2 ⊢
  have B2 := bt.hide (((Below.refl w.heap.size w).alloc (Nat.le_refl _) _).trans hbel2)
  have HO2 := bt.hide hown2
  clear hown2 hbel2
  go_wp2_with fail
  go_loopw [4] (fun i wr => ∃ j : Nat, i = .int .i64 j ∧ j ≤ 10 ∧ mem.Own wr w.heap.size 5 (.slice (some ⟨g, 0, none⟩) len0 c) (orF bs j) ∧ Hid (Below w.heap.size w wr)) (fun i _ => (10 - intOf i).toNat)
  case atStart => exact ⟨0, rfl, by omega, by simpa [orF] using HO2.out, B2⟩
  case round =>
    obtain ⟨j, rfl, hj, hown, hbel⟩ := hrel
    by_cases hlt : j < 10
    · have hlt' : (j : Int) < 10 := by omega
      have hjb : j < bs.length := by have := HLM.out; omega
      obtain ⟨s1, s2, s3⟩ := hown.stores j (by rw [orF_len]; exact hjb)
      have hx : bs[j] < 256 := HM.out.1 _ (List.getElem_mem hjb)
      rw [orF_at _ _ hjb] at s1
      have s3' := s3 (bs[j] ||| 128) (or128 _ hx).2
      rw [orF_set _ _ hjb] at s3'
      have S3 := bt.hide s3'
      have HX := bt.hide (or128 _ hx)
      generalize bs[j] = x at *
      change wr.cell? _ = some (.int .u8 (x : Nat)) at s1
      clear s3 s3' hown hjb
      go_wp2
      rw [or_u8 x hx]
      go_roundw
      case rel => exact ⟨j + 1, rfl, by omega, S3.out, bt.hide (hbel.out.setCell hg _)⟩
      case measure => simp [intOf] <;> omega
    · have hge : ¬ (j : Int) < 10 := by omega
      obtain rfl : j = 10 := by omega
      obtain ⟨A3, c3, hv3, hc3, hm3, hr3, _⟩ := hown.form
      simp only [Value.slice.injEq] at hv3
      obtain ⟨rfl, hv4, rfl⟩ := hv3
      have hrv : pl.rv 10 (orF bs 10) = none := pl.rv_long 10 _ _ (fun b hb => by
        obtain ⟨x, hx, rfl⟩ := List.mem_map.1 hb
        exact (or128 x (HM.out.1 x (List.mem_of_mem_take hx))).1) (by have := HLM.out; simp; omega)
      have K3 := bt.hide (co.icv_no _ len0 c _ wr.heap.size wr hr3 hv4 (by omega) hrv)
      clear hrv hr3 hv4 hown hge
      go_wp2_with fail
      refine (K3.out).mono ?_
      rintro e w4 ⟨k, rfl, rfl, hk, _⟩
      go_wp2_with fail
      go_ret
      exact ⟨rfl, hbel.out⟩

end Go.Proofs.Ythjflhpgfbnobaa.fnVarintLong
