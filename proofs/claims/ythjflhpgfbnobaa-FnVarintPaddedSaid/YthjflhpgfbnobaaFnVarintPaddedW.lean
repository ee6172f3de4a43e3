/-
  The walk of laws.FnVarintPadded returns true for every uint64 and every int: a number with further bytes than it needs, up to ten, is the same number. No condition.
-/
import Derived.Test.YthjflhpgfbnobaaRows
import Derived.WalkKit
import Derived.ProofKit
import Derived.OpenShut
import Derived.ShutString
import Derived.ChangeOld
import Derived.Below
import Derived.Test.YthjflhpgfbnobaaCons3
import Derived.Test.YthjflhpgfbnobaaStore
import Derived.OpenShut
import Derived.Test.YthjflhpgfbnobaaPad
import Derived.Test.YthjflhpgfbnobaaSpecW
namespace Go.Proofs.Ythjflhpgfbnobaa.fnVarintPadded
open Go.ChangeShapes Go.WideShapes Go.ChangeAt Go.RowKit
open Go.ChangeMaps (open_string shut_string)
set_option linter.unusedVariables false

def IsRow (k : IntKind) (w : World) (a : Option Addr) (len cap : Nat) (zs : List Int) : Prop :=
  (a = none ∧ len = 0 ∧ cap = 0 ∧ zs = []) ∨
  ∃ x, a = some x ∧ len ≤ cap ∧ cap ≤ maxLen ∧ zs.length = cap ∧ (∀ i, i < zs.length → w.cell? (x.add i) = some (.int k (zs.getD i 0))) ∧ ∀ n ∈ zs, (Lit.int k n).wf = true

theorem or_u8 (x : Nat) (h : x < 256) : bits .or .u8 (x : Int) 128 = ((x ||| 128 : Nat) : Int) := by
  exact (bits_nat .u8 8 (by decide) (fun n h0 h1 => by simp [IntKind.wrap, IntKind.bits, IntKind.signed]; omega) x 128 (by omega) (by decide)).2
theorem or128 (b : Nat) (h : b < 256) : 128 ≤ b ||| 128 ∧ b ||| 128 < 256 := ⟨Nat.right_le_or, Nat.or_lt_two_pow (n := 8) h (by decide)⟩

theorem walk (a0 : Int) (a1 : Int) (w : World) (w0 : (Lit.int .u64 a0).wf = true) (w1 : (Lit.int .i64 a1).wf = true) :
    Calls Try.prog 5 #[.int .u64 a0, .int .i64 a1] w fun e w' => e = .returned (.bool true) ∧ Below w.heap.size w w' := by
  obtain ⟨h0, h1⟩ := bounds_u64 w0
  obtain ⟨h2, h3⟩ := bounds_i64 w1
  obtain ⟨init, last, he, hin, hla, hva⟩ := pl.enc_split a0.toNat (by omega)
  have hel := pl.enc_len_le a0.toNat
  have K1 := sw.svar w.heap.size a0 w h0 (by omega) (Nat.le_refl _)
  rw [he] at K1 hel
  simp only [List.length_append, List.length_cons, List.length_nil, Nat.zero_add] at hel
  have K1 := bt.hide K1
  have HIN := bt.hide hin
  have HVA := bt.hide hva
  clear he hin hva
  by_cases hn1 : a1 < 1
  · have hd : decide (a1 < 1) = true := by simpa using hn1
    clear w0 w1
    go_enter Try.func5, Try.ntmps5
    go_wp2_with fail
    refine (K1.out).mono ?_
    rintro e w1 ⟨v1, rfl, hown1, hbel1⟩
    obtain ⟨A1, c1, rfl, _, _, hr1, _⟩ := hown1.form
    simp only [List.length_append, List.length_cons, List.length_nil, Nat.zero_add]
    have B1 := bt.hide hbel1
    clear hown1 hr1 hbel1
    go_wp2_with fail
    go_ret
    exact ⟨rfl, B1.out⟩
  have hd : decide (a1 < 1) = false := by simpa using hn1
  by_cases hn2 : 10 - ((init.length : Int) + 1) < a1
  · have hd2 : decide (10 - ((init.length : Int) + 1) < a1) = true := by simpa using hn2
    clear w0 w1
    go_enter Try.func5, Try.ntmps5
    go_wp2_with fail
    refine (K1.out).mono ?_
    rintro e w1 ⟨v1, rfl, hown1, hbel1⟩
    obtain ⟨A1, c1, rfl, _, _, hr1, _⟩ := hown1.form
    simp only [List.length_append, List.length_cons, List.length_nil, Nat.zero_add]
    have B1 := bt.hide hbel1
    clear hown1 hr1 hbel1
    go_wp2_with fail
    go_ret
    exact ⟨rfl, B1.out⟩
  have hd2 : decide (10 - ((init.length : Int) + 1) < a1) = false := by simpa using hn2
  obtain ⟨n, rfl⟩ := Int.eq_ofNat_of_zero_le (show 0 ≤ a1 by omega)
  have hvi : ((a0.toNat : Nat) : Int) = a0 := Int.toNat_of_nonneg h0
  have KP := bt.hide (pl.rv_pad init last (n - 1) a0.toNat HIN.out hla HVA.out (by omega))
  have HVI := bt.hide hvi
  obtain ⟨i0, hi, hz0, hz1, hz2⟩ := info_parts co.info8
  have H0 := bt.hide hz0
  have H1 := bt.hide hz1
  have H2 := bt.hide hz2
  have HI := bt.hide hi
  have OR := bt.hide (or_u8 last (by omega))
  have OR2 := bt.hide (or128 last (by omega))
  clear hz0 hz1 hz2 hi w0 w1 hvi h0 h1 h2 h3
  go_enter Try.func5, Try.ntmps5
  go_wp2_with fail
  refine (K1.out).mono ?_
  rintro e w1 ⟨v1, rfl, hown1, hbel1⟩
  obtain ⟨g, c, rfl, hg, hgw⟩ := hown1.shape (by simp)
  obtain ⟨s1, s2, s3⟩ := hown1.stores init.length (by simp)
  rw [List.getD_eq_getElem?_getD, List.getElem?_append_right (Nat.le_refl _), Nat.sub_self] at s1
  simp only [List.length_append, List.length_cons, List.length_nil, Nat.zero_add, List.getElem?_cons_zero, Option.getD_some] at s1 s3 ⊢
  change w1.cell? _ = some (.int .u8 (last : Nat)) at s1
  have s3 := s3 (last ||| 128) OR2.out.2
  rw [List.set_append_right _ _ (Nat.le_refl _), Nat.sub_self, List.set_cons_zero] at s3
  have S3 := bt.hide s3
  have B1 := bt.hide hbel1
  clear s3 hown1 hbel1
  go_wp2_with fail
  rw [OR.out]
  go_loopw [5, 6] (fun b k wr => ∃ (j : Nat) (bs : List Nat), k = .int .i64 j ∧ 1 ≤ j ∧ j ≤ n ∧ bs.length = init.length + j ∧ Hid (bs = (init ++ [last ||| 128] ++ List.replicate (j - 1) 128)) ∧ mem.Own wr w.heap.size 5 b bs ∧ Hid (Below w.heap.size w wr)) (fun _ k _ => ((n : Int) - intOf k).toNat)
  case atStart => exact ⟨1, _, rfl, Nat.le_refl _, by omega, by simp, bt.hide (by simp), S3.out, bt.hide (B1.out.setCell hg _)⟩
  case round =>
    obtain ⟨j, bs, rfl, hj, hjn, hXl, hX, hown, hbel⟩ := hrel
    have HOWN := bt.hide hown
    have hbw := hbel.out.size
    clear hown
    by_cases hlt : j < n
    · have hlt' : (j : Int) < (n : Int) := by omega
      go_wp2_with (at_builtin; refine mem.wpList_append_bytes _ rfl _ _ 22 rfl w.heap.size 5 i0 Try.underlying22 HI.out H0.out H1.out H2.out _ (bs) rfl ?a1 (wr.heap.size + 1) _ 1 1 [128] rfl rfl ?a2 ?a3 ?a4 ?_)
      case a1 => exact HOWN.out.keepB ((Below.refl _ _).alloc (Nat.le_refl _) _) (Nat.le_refl _)
      case a2 => exact mem.Rd.new wr _ _ _ (by simp) rfl
      case a3 => first | omega | (simp; omega)
      case a4 => first | omega | (simp; omega)
      intro v2 w2 hown2 hbel2
      have HO := bt.hide hown2
      have HB := bt.hide (hbel.out.trans (((Below.refl _ _).alloc (show w.heap.size ≤ wr.heap.size by omega) _).trans hbel2))
      clear hown2 hbel2
      go_wp2_with fail
      go_roundw
      case rel => exact ⟨j + 1, _, rfl, by omega, by omega, by simp; omega, bt.hide (by rw [hX.out, List.append_assoc, ← List.replicate_succ', show j - 1 + 1 = j + 1 - 1 by omega]), HO.out, HB⟩
      case measure => simp [intOf] <;> omega
    · have hge : ¬ (j : Int) < (n : Int) := by omega
      obtain rfl : j = n := by omega
      obtain ⟨A2, c2, rfl, hc2, hm2, _, _⟩ := HOWN.out.form
      rw [hXl] at HOWN ⊢
      go_wp2_with (at_builtin; refine mem.wpList_append_bytes _ rfl _ _ 22 rfl w.heap.size 5 i0 Try.underlying22 HI.out H0.out H1.out H2.out _ (bs) rfl ?b1 (wr.heap.size + 1) _ 1 1 [0] rfl rfl ?b2 ?b3 ?b4 ?_)
      case b1 => exact HOWN.out.keepB ((Below.refl _ _).alloc (Nat.le_refl _) _) (Nat.le_refl _)
      case b2 => exact mem.Rd.new wr _ _ _ (by simp) rfl
      case b3 => first | omega | (simp; omega)
      case b4 => first | omega | (simp; omega)
      intro v2 w2 hown2 hbel2
      obtain ⟨A3, c3, rfl, hc3, hm3, hr3, _⟩ := hown2.form
      have K3 := co.icv_yes A3 _ c3 _ w2.heap.size w2 _ hr3 rfl (by rw [List.length_append, hXl]; simp; omega) (by rw [hX.out]; exact KP.out)
      rw [HVI.out, List.length_append, hXl] at K3
      have K3 := bt.hide K3
      have HB := bt.hide (hbel.out.trans (((Below.refl _ _).alloc (show w.heap.size ≤ wr.heap.size by omega) _).trans hbel2))
      clear hown2 hbel2 hr3
      go_wp2_with fail
      refine (K3.out).mono ?_
      rintro e w4 ⟨rfl, rfl⟩
      go_wp2_with fail
      go_ret
      exact ⟨by simp; omega, HB.out⟩

end Go.Proofs.Ythjflhpgfbnobaa.fnVarintPadded
