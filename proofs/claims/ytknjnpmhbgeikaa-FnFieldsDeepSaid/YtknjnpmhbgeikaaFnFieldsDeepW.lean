/-
  The walk of laws.FnFieldsDeep returns true for every int and int32: groups within each other, up to a hundred, are one field; cut by a byte they are none. No condition.
-/
import Derived.Test.YtknjnpmhbgeikaaRows
import Derived.WalkKit
import Derived.ProofKit
import Derived.OpenShut
import Derived.ShutString
import Derived.ChangeOld
import Derived.Below
import Derived.Test.YtknjnpmhbgeikaaVal
import Derived.Test.YtknjnpmhbgeikaaRead
import Derived.Test.YtknjnpmhbgeikaaArg
import Derived.Test.YtknjnpmhbgeikaaOwnNew
import Derived.Test.YtknjnpmhbgeikaaTree
import Derived.Test.YtknjnpmhbgeikaaSpecW
import Derived.Test.YtknjnpmhbgeikaaDeep
namespace Go.Proofs.Ytknjnpmhbgeikaa.fnFieldsDeep
open Go.ChangeShapes Go.WideShapes Go.ChangeAt Go.RowKit
open Go.ChangeMaps (open_string shut_string)
set_option linter.unusedVariables false

def IsRow (k : IntKind) (w : World) (a : Option Addr) (len cap : Nat) (zs : List Int) : Prop :=
  (a = none ∧ len = 0 ∧ cap = 0 ∧ zs = []) ∨
  ∃ x, a = some x ∧ len ≤ cap ∧ cap ≤ maxLen ∧ zs.length = cap ∧ (∀ i, i < zs.length → w.cell? (x.add i) = some (.int k (zs.getD i 0))) ∧ ∀ n ∈ zs, (Lit.int k n).wf = true

/-- So many begins, so many ends. -/
def nest (a n : Nat) : List Nat := pl.rep n (pl.enc (a * 8 + 3)) ++ pl.rep n (pl.enc (a * 8 + 4))
theorem nest_len (a n : Nat) (h : 1 ≤ n) : 1 ≤ (nest a n).length ∧ (nest a n).length ≤ 20 * n := by
  obtain ⟨m, rfl⟩ : ∃ m, n = m + 1 := ⟨n - 1, by omega⟩
  have h1 := pl.rep_len (m + 1) _ (pl.enc_len_le (a * 8 + 3))
  have h2 := pl.rep_len (m + 1) _ (pl.enc_len_le (a * 8 + 4))
  have h3 := pl.enc_len_pos (a * 8 + 3)
  have h4 : (pl.rep (m + 1) (pl.enc (a * 8 + 3))).length = (pl.enc (a * 8 + 3)).length + (pl.rep m (pl.enc (a * 8 + 3))).length := by rw [pl.rep, List.length_append]
  unfold nest
  rw [List.length_append]
  omega
theorem nest_field (a n : Nat) (h1 : 1 ≤ a) (h2 : a ≤ 2147483647) (hn : 1 ≤ n) (hn2 : n ≤ 100) : va.F (nest a n) = some (a, 3, (nest a n).length) := by
  obtain ⟨m, rfl⟩ : ∃ m, n = m + 1 := ⟨n - 1, by omega⟩
  obtain ⟨e, he⟩ := pl.deep a h1 h2 m 10001 [] (by omega)
  have hb : nest a (m + 1) = pl.enc (a * 8 + 3) ++ (pl.rep m (pl.enc (a * 8 + 3)) ++ (pl.rep (m + 1) (pl.enc (a * 8 + 4)) ++ [])) := by
    unfold nest
    rw [show pl.rep (m + 1) (pl.enc (a * 8 + 3)) = pl.enc (a * 8 + 3) ++ pl.rep m (pl.enc (a * 8 + 3)) from rfl, List.append_assoc, List.append_nil]
  have ht := pl.rtag_enc a 3 (pl.rep m (pl.enc (a * 8 + 3)) ++ (pl.rep (m + 1) (pl.enc (a * 8 + 4)) ++ [])) h1 h2 (by decide)
  rw [hb, va.F_tag ht, pl.drop_app, pl.V_group, he]
  simp
theorem nest_cut (a n : Nat) (h1 : 1 ≤ a) (h2 : a ≤ 2147483647) (hn : 1 ≤ n) (hn2 : n ≤ 100) : va.F ((nest a n).take ((nest a n).length - 1)) = none := by
  obtain ⟨m, rfl⟩ : ∃ m, n = m + 1 := ⟨n - 1, by omega⟩
  have hep := pl.enc_len_pos (a * 8 + 4)
  have hc := pl.rtag_cut a 4 ((pl.enc (a * 8 + 4)).length - 1) (by omega)
  have hd := pl.deep_cut a h1 h2 m 10001 _ (by omega) hc
  have hb : nest a (m + 1) = (pl.enc (a * 8 + 3) ++ (pl.rep m (pl.enc (a * 8 + 3)) ++ pl.rep m (pl.enc (a * 8 + 4)))) ++ pl.enc (a * 8 + 4) := by
    unfold nest
    rw [show pl.rep (m + 1) (pl.enc (a * 8 + 3)) = pl.enc (a * 8 + 3) ++ pl.rep m (pl.enc (a * 8 + 3)) from rfl, ← pl.rep_snoc m (pl.enc (a * 8 + 4))]
    simp
  have ht := pl.rtag_enc a 3 (pl.rep m (pl.enc (a * 8 + 3)) ++ (pl.rep m (pl.enc (a * 8 + 4)) ++ (pl.enc (a * 8 + 4)).take ((pl.enc (a * 8 + 4)).length - 1))) h1 h2 (by decide)
  have hcut : (nest a (m + 1)).take ((nest a (m + 1)).length - 1) = pl.enc (a * 8 + 3) ++ (pl.rep m (pl.enc (a * 8 + 3)) ++ (pl.rep m (pl.enc (a * 8 + 4)) ++ (pl.enc (a * 8 + 4)).take ((pl.enc (a * 8 + 4)).length - 1))) := by
    rw [hb, List.length_append, Nat.add_sub_assoc hep, List.take_length_add_append]
    simp
  rw [hcut, va.F_tag ht, pl.drop_app, pl.V_group, hd]
  rfl

theorem walk (a0 : Int) (a1 : Int) (w : World) (w0 : (Lit.int .i64 a0).wf = true) (w1 : (Lit.int .i32 a1).wf = true) :
    Calls Try.prog 13 #[.int .i64 a0, .int .i32 a1] w fun e w' => e = .returned (.bool true) ∧ Below w.heap.size w w' := by
  obtain ⟨h2, h3⟩ := bounds_i64 w0
  by_cases g2 : a0 < 1
  · have hd : decide (a0 < 1) = true := by simpa using g2
    clear w0 w1
    go_enter Try.func13, Try.ntmps13
    go_wp2
    go_ret
    exact ⟨rfl, Below.refl _ _⟩
  have hd : decide (a0 < 1) = false := by simpa using g2
  by_cases g3 : 100 < a0
  · have hd2 : decide (100 < a0) = true := by simpa using g3
    clear w0 w1
    go_enter Try.func13, Try.ntmps13
    go_wp2
    go_ret
    exact ⟨rfl, Below.refl _ _⟩
  have hd2 : decide (100 < a0) = false := by simpa using g3
  by_cases hnum : 1 ≤ a1 ∧ a1 ≤ 536870911
  rotate_left
  · have K0 := bt.hide (fun (W : World) => pu.numOk_no a1 W (by omega))
    clear w0 w1
    go_enter Try.func13, Try.ntmps13
    go_wp2_with fail
    refine (K0.out _).mono ?_
    rintro e w' ⟨rfl, rfl⟩
    go_wp2_with fail
    go_ret
    exact ⟨rfl, Below.refl _ _⟩
  obtain ⟨g0, g1⟩ := hnum
  have K0 := bt.hide (fun (W : World) => pu.numOk_yes a1 W g0 g1)
  obtain ⟨n, rfl⟩ := Int.eq_ofNat_of_zero_le (show 0 ≤ a0 by omega)
  obtain ⟨a, rfl⟩ := Int.eq_ofNat_of_zero_le (show 0 ≤ a1 by omega)
  have KT3 := bt.hide (fun (W : World) => pu.stag (a : Int) 3 W (by omega) (by omega) (by decide) (by decide))
  have KT4 := bt.hide (fun (W : World) => pu.stag (a : Int) 4 W (by omega) (by omega) (by decide) (by decide))
  have KV3 := fun (W : World) => sw.svar W.heap.size ((a : Int) * 8 + 3) W (by omega) (by omega) (Nat.le_refl _)
  have KV4 := fun (W : World) => sw.svar W.heap.size ((a : Int) * 8 + 4) W (by omega) (by omega) (Nat.le_refl _)
  rw [show ((a : Int) * 8 + 3).toNat = a * 8 + 3 by omega] at KV3
  rw [show ((a : Int) * 8 + 4).toNat = a * 8 + 4 by omega] at KV4
  have KV3 := bt.hide KV3
  have KV4 := bt.hide KV4
  have HF := bt.hide (nest_field a n (by omega) (by omega) (by omega) (by omega))
  have HC := bt.hide (nest_cut a n (by omega) (by omega) (by omega) (by omega))
  have HNL := bt.hide (nest_len a n (by omega))
  have he3 := pl.enc_len_le (a * 8 + 3)
  have he4 := pl.enc_len_le (a * 8 + 4)
  have HNE := bt.hide (show nest a n = pl.rep n (pl.enc (a * 8 + 3)) ++ pl.rep n (pl.enc (a * 8 + 4)) from rfl)
  generalize nest a n = N at *
  generalize pl.enc (a * 8 + 3) = T at *
  generalize pl.enc (a * 8 + 4) = E at *
  have hn1 : 1 ≤ n := by omega
  have hn100 : n ≤ 100 := by omega
  obtain ⟨i0, hi, hz0, hz1, hz2⟩ := info_parts co.info8
  have H0 := bt.hide hz0
  have H1 := bt.hide hz1
  have H2 := bt.hide hz2
  have HI := bt.hide hi
  rename_i KA KB
  clear KA KB hz0 hz1 hz2 hi w0 w1 h2 h3
  go_enter Try.func13, Try.ntmps13
  go_wp2_with fail
  refine (K0.out _).mono ?_
  rintro e w' ⟨rfl, rfl⟩
  go_wp2_with fail
  go_loopw [5, 6] (fun b k wr => ∃ (j : Nat) (bs : List Nat), k = .int .i64 j ∧ j ≤ n ∧ Hid (bs = pl.rep j T) ∧ mem.Own wr w.heap.size 5 b bs ∧ bs.length ≤ 10 * j ∧ Hid (Below w.heap.size w wr)) (fun _ k _ => ((n : Int) - intOf k).toNat)
  case atStart => exact ⟨0, [], rfl, by omega, bt.hide rfl, mem.Own.empty w _ _ (Nat.le_refl _), by simp, bt.hide ((Below.refl _ _).alloc (Nat.le_refl _) _)⟩
  case round =>
    obtain ⟨j, bs, rfl, hj, hbs, hown, hlb, hbel⟩ := hrel
    by_cases hlt : j < n
    · skip
      have HOWN := bt.hide hown
      have hbw := hbel.out.size
      clear hown
      have hlt' : (j : Int) < (n : Int) := by omega
      go_wp2_with fail
      refine (KT3.out _).mono ?_
      rintro e w' ⟨rfl, rfl⟩
      go_wp2_with fail
      refine (KV3.out wr).mono ?_
      rintro e w1 ⟨v1, rfl, hown1, hbel1⟩
      obtain ⟨A1, c1, rfl, hc1, hm1, hr1, _⟩ := hown1.form
      have HO1 := bt.hide (HOWN.out.keepB hbel1 (Nat.le_refl _))
      have HR1 := bt.hide hr1
      have hw1 : w.heap.size ≤ w1.heap.size := Nat.le_trans hbw hbel1.size
      have B1 := bt.hide (hbel.out.trans (hbel1.mono hbw))
      clear hown1 hbel1 hr1
      go_wp2_with (at_builtin; refine mem.wpList_append_bytes _ rfl _ _ 23 rfl w.heap.size 5 i0 Try.underlying23 HI.out H0.out H1.out H2.out _ _ rfl HO1.out w1.heap.size A1 _ c1 _ rfl rfl ?c2 ?c3 ?c4 ?_)
      case c2 => exact HR1.out
      case c3 => omega
      case c4 => exact hw1
      intro v2 w2 hown2 hbel2
      have HO := bt.hide hown2
      have HB := bt.hide (B1.out.trans hbel2)
      clear hown2 hbel2
      go_wp2_with fail
      go_roundw
      case rel => exact ⟨j + 1, _, rfl, by omega, bt.hide (by rw [hbs.out, pl.rep_snoc]), HO.out, by simp only [List.length_append]; omega, HB⟩
      case measure => simp [intOf] <;> omega
    · have hge : ¬ (j : Int) < (n : Int) := by omega
      obtain rfl : j = n := by omega
      have HOWN := bt.hide hown
      have HBS := bt.hide hbs.out
      have HB0 := bt.hide hbel.out
      clear hown hbs hbel
      go_wp2_with fail
      go_loopw [5, 7] (fun b k wr => ∃ (i : Nat) (cs : List Nat), k = .int .i64 i ∧ i ≤ j ∧ Hid (cs = pl.rep j T ++ pl.rep i E) ∧ mem.Own wr w.heap.size 5 b cs ∧ cs.length ≤ 10 * j + 10 * i ∧ Hid (Below w.heap.size w wr)) (fun _ k _ => ((j : Int) - intOf k).toNat)
      case atStart => exact ⟨0, bs, rfl, by omega, bt.hide (by rw [HBS.out]; simp [pl.rep]), HOWN.out, by omega, HB0⟩
      case round =>
        obtain ⟨i, cs, rfl, hi, hcs, hown, hlc, hbel⟩ := hrel
        by_cases hlt2 : i < j
        · skip
          have HOWN := bt.hide hown
          have hbw := hbel.out.size
          clear hown
          have hlt' : (i : Int) < (j : Int) := by omega
          go_wp2_with fail
          refine (KT4.out _).mono ?_
          rintro e w' ⟨rfl, rfl⟩
          go_wp2_with fail
          refine (KV4.out wr).mono ?_
          rintro e w1 ⟨v1, rfl, hown1, hbel1⟩
          obtain ⟨A1, c1, rfl, hc1, hm1, hr1, _⟩ := hown1.form
          have HO1 := bt.hide (HOWN.out.keepB hbel1 (Nat.le_refl _))
          have HR1 := bt.hide hr1
          have hw1 : w.heap.size ≤ w1.heap.size := Nat.le_trans hbw hbel1.size
          have B1 := bt.hide (hbel.out.trans (hbel1.mono hbw))
          clear hown1 hbel1 hr1
          go_wp2_with (at_builtin; refine mem.wpList_append_bytes _ rfl _ _ 23 rfl w.heap.size 5 i0 Try.underlying23 HI.out H0.out H1.out H2.out _ _ rfl HO1.out w1.heap.size A1 _ c1 _ rfl rfl ?d2 ?d3 ?d4 ?_)
          case d2 => exact HR1.out
          case d3 => omega
          case d4 => exact hw1
          intro v2 w2 hown2 hbel2
          have HO := bt.hide hown2
          have HB := bt.hide (B1.out.trans hbel2)
          clear hown2 hbel2
          go_wp2_with fail
          go_roundw
          case rel => exact ⟨i + 1, _, rfl, by omega, bt.hide (by rw [hcs.out, List.append_assoc, pl.rep_snoc]), HO.out, by simp only [List.length_append]; omega, HB⟩
          case measure => simp [intOf] <;> omega
        · have hge2 : ¬ (i : Int) < (j : Int) := by omega
          obtain rfl : i = j := by omega
          obtain rfl : cs = N := by rw [hcs.out, HNE.out]
          obtain ⟨A, c, rfl, hc, hm, hr, _⟩ := hown.form
          have hbw := hbel.out.size
          obtain ⟨q, hq⟩ : ∃ q, cs.length = q + 1 := ⟨cs.length - 1, by have := HNL.out; omega⟩
          have K1 := va.icfl A _ c cs wr hr rfl hc hm
          have hHC := HC.out
          rw [hq, Nat.add_sub_cancel] at hHC
          have K2 := bt.hide (fun (W : World) (hW : Below wr.heap.size wr W) => va.icfl A q c (cs.take q) W (((hr.take q).below hW).more hW.size) (by rw [List.length_take]; omega) (by omega) hm)
          rw [hHC] at K2
          rw [HF.out, hq] at K1
          have K1 := bt.hide K1
          have s1 := fun (W : World) => mem.run_upto (w := W) (A := A) (n := q + 1) (c := c) Try.underlying23 HI.out H1.out q (by omega) .i64
          have hq100 : q ≤ 20000 := by have := HNL.out; omega
          rw [hq]
          clear hr hown hHC hcs
          go_wp2_with fail
          refine (K1.out).mono ?_
          rintro e w1 ⟨x, y, m, rfl, hb1, hok⟩
          obtain ⟨rfl, rfl, rfl⟩ := hok
          have B1 := bt.hide hb1
          clear hb1
          go_wp2_with fail
          refine (K2.out _ B1.out).mono ?_
          rintro e w2 ⟨x, y, m, rfl, hb2, hok⟩
          have hm0 : m < 0 := hok
          have B2 := bt.hide (hbel.out.trans ((B1.out.trans (hb2.mono B1.out.size)).mono hbw))
          clear hb2 hok
          go_wp2_with fail
          go_ret
          exact ⟨by simp, B2.out⟩

end Go.Proofs.Ytknjnpmhbgeikaa.fnFieldsDeep
