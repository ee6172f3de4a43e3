/-
  The walk of laws.FnTagCut returns true for every int32, int8 and int: a tag that is cut is an error, for numbers in 1..MaxNumber and types in 0..5. No condition.
-/
import Derived.Test.YthjflhpgfbnobaaRows
import Derived.WalkKit
import Derived.ProofKit
import Derived.OpenShut
import Derived.ShutString
import Derived.ChangeOld
import Derived.Below
import Derived.Test.YthjflhpgfbnobaaSpecR2
import Derived.Test.YthjflhpgfbnobaaAppend2
namespace Go.Proofs.Ythjflhpgfbnobaa.fnTagCut
open Go.ChangeShapes Go.WideShapes Go.ChangeAt Go.RowKit
open Go.ChangeMaps (open_string shut_string)
set_option linter.unusedVariables false

def IsRow (k : IntKind) (w : World) (a : Option Addr) (len cap : Nat) (zs : List Int) : Prop :=
  (a = none ∧ len = 0 ∧ cap = 0 ∧ zs = []) ∨
  ∃ x, a = some x ∧ len ≤ cap ∧ cap ≤ maxLen ∧ zs.length = cap ∧ (∀ i, i < zs.length → w.cell? (x.add i) = some (.int k (zs.getD i 0))) ∧ ∀ n ∈ zs, (Lit.int k n).wf = true

theorem walk (a0 : Int) (a1 : Int) (a2 : Int) (w : World) (w0 : (Lit.int .i32 a0).wf = true) (w1 : (Lit.int .i8 a1).wf = true) (w2 : (Lit.int .i64 a2).wf = true) :
    Calls Try.prog 14 #[.int .i32 a0, .int .i8 a1, .int .i64 a2] w fun e w' => e = .returned (.bool true) ∧ Below w.heap.size w w' := by
  obtain ⟨h2, h3⟩ := bounds_i64 w2
  have hel := pl.enc_len_le (pl.tagN a0 a1)
  by_cases hnum : 1 ≤ a0 ∧ a0 ≤ 536870911
  rotate_left
  · go_enter Try.func14, Try.ntmps14
    go_wp2_with fail
    refine (pu.numOk_no a0 _ (by omega)).mono ?_
    rintro e w' ⟨rfl, rfl⟩
    go_wp2_with fail
    go_ret
    exact ⟨rfl, Below.refl _ _⟩
  obtain ⟨g0, g1⟩ := hnum
  by_cases g2 : a1 < 0
  · have hd : decide (a1 < 0) = true := by simpa using g2
    go_enter Try.func14, Try.ntmps14
    go_wp2_with fail
    refine (pu.numOk_yes a0 _ g0 g1).mono ?_
    rintro e w' ⟨rfl, rfl⟩
    go_wp2_with fail
    go_ret
    exact ⟨rfl, Below.refl _ _⟩
  have hd : decide (a1 < 0) = false := by simpa using g2
  by_cases g3 : 5 < a1
  · have hd2 : decide (5 < a1) = true := by simpa using g3
    go_enter Try.func14, Try.ntmps14
    go_wp2_with fail
    refine (pu.numOk_yes a0 _ g0 g1).mono ?_
    rintro e w' ⟨rfl, rfl⟩
    go_wp2_with fail
    go_ret
    exact ⟨rfl, Below.refl _ _⟩
  have hd2 : decide (5 < a1) = false := by simpa using g3
  clear w0 w1 w2
  obtain ⟨i0, hi, hz0, hz1, hz2⟩ := info_parts co.info8
  have K1 := bt.hide (ap.iAppendTag none [] 0 0 a0 a1 w (by omega) (by omega) (by omega) (by omega) (mem.Rd.nil_ _ _ _) rfl (by simp))
  have H0 := bt.hide hz0
  have H1 := bt.hide hz1
  have H2 := bt.hide hz2
  have HI := bt.hide hi
  clear hz0 hz1 hz2 hi
  by_cases hn : 0 ≤ a2 ∧ a2 < ((pl.enc (pl.tagN a0 a1)).length : Int)
  · obtain ⟨k, hk⟩ := Int.eq_ofNat_of_zero_le hn.1
    subst hk
    have hkl : k < (pl.enc (pl.tagN a0 a1)).length := by omega
    have hkz : ¬ (k : Int) < 0 := by omega
    have hkg : ¬ ((pl.enc (pl.tagN a0 a1)).length : Int) ≤ (k : Int) := by omega
    have hkd : decide (((pl.enc (pl.tagN a0 a1)).length : Int) ≤ (k : Int)) = false := by simpa using hkg
    clear hn
    go_enter Try.func14, Try.ntmps14
    go_wp2_with fail
    refine (pu.numOk_yes a0 _ g0 g1).mono ?_
    rintro e w0 ⟨rfl, rfl⟩
    go_wp2_with fail
    refine (K1.out).mono ?_
    rintro e w1 ⟨v1, rfl, hown1, hbel1⟩
    simp only [List.nil_append] at hown1
    obtain ⟨A1, c1, rfl, hc1, hm1, hr1, _⟩ := hown1.form
    have s1 := fun (W : World) => mem.run_upto (w := W) (A := A1) (n := (pl.enc (pl.tagN a0 a1)).length) (c := c1) Try.underlying22 HI.out H1.out k (by omega) .i64
    have HR1 := bt.hide (hr1.take k)
    have B1 := bt.hide hbel1
    clear hown1 hr1 hbel1
    go_wp2_with (at_builtin; refine mem.wpList_append_bytes _ rfl _ _ 22 rfl w.heap.size 5 i0 Try.underlying22 HI.out H0.out H1.out H2.out _ [] rfl (mem.Own.empty w1 _ _ B1.out.size) w1.heap.size A1 k c1 ((pl.enc (pl.tagN a0 a1)).take k) rfl ?c1 ?c2 ?c3 ?c4 ?_)
    case c1 => rw [List.length_take]; omega
    case c2 => exact HR1.out.below ((Below.refl _ _).alloc (Nat.le_refl _) _)
    case c3 => simp; omega
    case c4 => have := B1.out.size; simp; omega
    intro v2 w2 hown2 hbel2
    have hl2 : ((pl.enc (pl.tagN a0 a1)).take k).length = k := by rw [List.length_take]; omega
    try simp only [List.nil_append] at hown2
    obtain ⟨A2, c2, hv2, hc2, hm2, hr2, _⟩ := hown2.form
    rw [hl2] at hv2
    subst hv2
    have B2 := bt.hide (B1.out.trans (((Below.refl w.heap.size w1).alloc B1.out.size _).trans hbel2))
    have K2 := bt.hide (co.ict_no A2 k c2 ((pl.enc (pl.tagN a0 a1)).take k) w2.heap.size w2 hr2 hl2.symm (by omega) (pl.rtag_cut a0.toNat a1.toNat k hkl))
    clear hown2 hbel2 hr2 s1 hl2
    go_wp2_with fail
    refine (K2.out).mono ?_
    rintro e w3 ⟨k3, rfl, rfl, hk3, _⟩
    go_wp2_with fail
    refine (co.works _).mono ?_
    rintro e w4 ⟨rfl, hb4⟩
    have HB4 := bt.hide (B2.out.trans (hb4.mono B2.out.size))
    clear hb4
    go_wp2_with fail
    go_ret
    exact ⟨rfl, HB4.out⟩
  · by_cases hneg : a2 < 0
    · skip
      clear hn
      go_enter Try.func14, Try.ntmps14
      go_wp2_with fail
      refine (pu.numOk_yes a0 _ g0 g1).mono ?_
      rintro e w0 ⟨rfl, rfl⟩
      go_wp2_with fail
      refine (K1.out).mono ?_
      rintro e w1 ⟨v1, rfl, hown1, hbel1⟩
      simp only [List.nil_append] at hown1
      obtain ⟨A1, c1, rfl, hc1, hm1, hr1, _⟩ := hown1.form
      have B1 := bt.hide hbel1
      clear hown1 hr1 hbel1
      go_wp2_with fail
      refine (co.works _).mono ?_
      rintro e w4 ⟨rfl, hb4⟩
      have HB4 := bt.hide (B1.out.trans (hb4.mono B1.out.size))
      clear hb4
      go_wp2_with fail
      go_ret
      exact ⟨rfl, HB4.out⟩
    · have hge : ((pl.enc (pl.tagN a0 a1)).length : Int) ≤ a2 := by omega
      clear hn
      go_enter Try.func14, Try.ntmps14
      go_wp2_with fail
      refine (pu.numOk_yes a0 _ g0 g1).mono ?_
      rintro e w0 ⟨rfl, rfl⟩
      go_wp2_with fail
      refine (K1.out).mono ?_
      rintro e w1 ⟨v1, rfl, hown1, hbel1⟩
      simp only [List.nil_append] at hown1
      obtain ⟨A1, c1, rfl, hc1, hm1, hr1, _⟩ := hown1.form
      have B1 := bt.hide hbel1
      clear hown1 hr1 hbel1
      go_wp2_with fail
      refine (co.works _).mono ?_
      rintro e w4 ⟨rfl, hb4⟩
      have HB4 := bt.hide (B1.out.trans (hb4.mono B1.out.size))
      clear hb4
      go_wp2_with fail
      go_ret
      exact ⟨rfl, HB4.out⟩

end Go.Proofs.Ythjflhpgfbnobaa.fnTagCut
