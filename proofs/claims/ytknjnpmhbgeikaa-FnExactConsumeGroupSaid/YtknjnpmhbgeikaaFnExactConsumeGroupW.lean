/-
  The walk of laws.FnExactConsumeGroup returns true for every int32 and []byte: a group is parsed as the reference reads it. No condition.
-/
import Derived.Test.YtknjnpmhbgeikaaRows
import Derived.WalkKit
import Derived.ProofKit
import Derived.OpenShut
import Derived.ShutString
import Derived.ChangeOld
import Derived.Below
import Derived.Test.YtknjnpmhbgeikaaVal
import Derived.Test.YtknjnpmhbgeikaaRead
import Derived.Test.YtknjnpmhbgeikaaArg
import Derived.Test.YtknjnpmhbgeikaaGroup
namespace Go.Proofs.Ytknjnpmhbgeikaa.fnExactConsumeGroup
open Go.ChangeShapes Go.WideShapes Go.ChangeAt Go.RowKit
open Go.ChangeMaps (open_string shut_string)
set_option linter.unusedVariables false

def IsRow (k : IntKind) (w : World) (a : Option Addr) (len cap : Nat) (zs : List Int) : Prop :=
  (a = none ∧ len = 0 ∧ cap = 0 ∧ zs = []) ∨
  ∃ x, a = some x ∧ len ≤ cap ∧ cap ≤ maxLen ∧ zs.length = cap ∧ (∀ i, i < zs.length → w.cell? (x.add i) = some (.int k (zs.getD i 0))) ∧ ∀ n ∈ zs, (Lit.int k n).wf = true

theorem walk (a0 : Int) (a1 : Option Addr) (len1 cap1 : Nat) (z1 : List Int) (w : World) (w0 : (Lit.int .i32 a0).wf = true) (w1 : IsRow .u8 w a1 len1 cap1 z1) :
    Calls Try.prog 12 #[.int .i32 a0, .slice a1 len1 cap1] w fun e w' => e = .returned (.bool true) ∧ Below w.heap.size w w' := by
  obtain ⟨bs, hlen, hcap, hmax, hrd⟩ := mem.rd_of_row w1
  by_cases hbig : 2147483647 < len1
  · have hb : (2147483647 : Int) < (len1 : Int) := by omega
    have HR := bt.hide hrd
    clear hrd hlen w0 w1
    go_enter Try.func12, Try.ntmps12
    go_wp2
    go_ret
    exact ⟨rfl, Below.refl _ _⟩
  have hb : ¬ (2147483647 : Int) < (len1 : Int) := by omega
  by_cases hten : 10000 < len1
  · have hb2 : (10000 : Int) < (len1 : Int) := by omega
    have hb2' : decide ((10000 : Int) < (len1 : Int)) = true := by simp; omega
    have HR := bt.hide hrd
    clear hrd hlen w0 w1
    go_enter Try.func12, Try.ntmps12
    go_wp2
    go_ret
    exact ⟨rfl, Below.refl _ _⟩
  have hb2 : ¬ (10000 : Int) < (len1 : Int) := by omega
  have hb2' : decide ((10000 : Int) < (len1 : Int)) = false := by simp; omega
  have hn32 : -2147483648 ≤ a0 ∧ a0 ≤ 2147483647 := by have := bounds_i32 w0; omega
  have hG : pl.G 10001 a0 bs = re.GA a0 bs := pl.G_enough _ _ _ bs (by omega) (by omega)
  have K2 := fun (W : World) (hW : Below w.heap.size w W) => re.sgr a1 len1 cap1 bs _ W a0 (hrd.below hW) hlen.symm hcap (by omega) hn32
  rcases hA : re.GA a0 bs with _ | ⟨e, t⟩
  · rw [hA] at K2 hG
    have K1 := bt.hide (gr.icg_no a1 len1 cap1 bs w a0 hrd hlen.symm hcap hmax hn32 hG)
    have K2 := bt.hide K2
    rename_i K0
    clear K0 hrd hlen w0 w1 hG hn32 hA
    go_enter Try.func12, Try.ntmps12
    go_wp2_with fail
    refine (K1.out).mono ?_
    rintro e w2 ⟨k, ⟨v2, rfl, hown2, hbel2⟩, hk⟩
    have B2 := bt.hide hbel2
    clear hown2 hbel2
    go_wp2_with fail
    refine (K2.out _ B2.out).mono ?_
    rintro e w3 ⟨p, q, b, rfl, rfl, hq, hok⟩
    obtain rfl : b = false := hok
    go_wp2_with fail
    refine (co.works _).mono ?_
    rintro e w9 ⟨rfl, hb9⟩
    have HB9 := bt.hide (B2.out.trans (hb9.mono B2.out.size))
    clear hb9
    go_wp2_with fail
    go_ret
    exact ⟨rfl, HB9.out⟩
  · rw [hA] at K2 hG
    obtain ⟨i0, hi, hz0, hz1, hz2⟩ := info_parts co.info8
    have hl := pl.grp_len _ _ _ _ _ _ hG
    have K1 := bt.hide (gr.icg_yes a1 len1 cap1 bs w a0 e t hrd hlen.symm hcap hmax (by omega) hn32 hG)
    have K2 := bt.hide K2
    have s1 := fun (W : World) => mem.run_upto (w := W) (A := a1) (n := len1) (c := cap1) Try.underlying23 hi hz1 e (by omega) .i64
    have d2 := fun (W : World) (hW : Below w.heap.size w W) => ((hrd.below hW).take e).conv (dst := 9) Try.underlying23 Try.underlying5 Try.underlying9 e cap1 (by rw [List.length_take]; omega)
    have hel : (bs.take e).length = e := by rw [List.length_take]; omega
    rename_i K0
    clear K0 hrd hlen w0 w1 hG hn32 hA hi hz0 hz1 hz2 hl
    generalize bs.take e = X at *
    have hd : ((mem.str X).toList == (mem.str X).toList) = true := by simp
    have HEL := bt.hide hel
    clear hel
    go_enter Try.func12, Try.ntmps12
    go_wp2_with fail
    refine (K1.out).mono ?_
    rintro e1 w1 ⟨v1, rfl, hown1, hbel1⟩
    obtain ⟨A1, c1, rfl, hc1, hm1, hr1, _⟩ := hown1.form
    have d1 := fun (W : World) (hW : Below w1.heap.size w1 W) => (hr1.below hW).conv (dst := 9) Try.underlying23 Try.underlying5 Try.underlying9 _ c1 rfl
    have d2' := fun (W : World) (hW : Below w1.heap.size w1 W) => d2 W (hbel1.trans (hW.mono hbel1.size))
    have B1 := bt.hide hbel1
    have B1s := bt.hide (show w.heap.size ≤ w1.heap.size from hbel1.size)
    clear hown1 hbel1 hr1 d2
    go_wp2_with fail
    refine (K2.out _ B1.out).mono ?_
    rintro e1 w2 ⟨p, q, b, rfl, rfl, hq, rfl, hp1, hp2⟩
    obtain rfl : p = e := hp1
    obtain rfl : q = t := hp2
    go_wp2_with fail
    refine wp_region_held_drew (S := fun W' => Below w1.heap.size w1 W') (by kernel_rfl) (Below.refl _ _).drew (fun hHeld => ?_)
    refine wpAnyH_take (i := 0) (v := ?_) rfl (by kernel_rfl) (by kernel_rfl) (by kernel_rfl) (fun _ _ _ h => h) (Or.inl ⟨by rfl, ?_⟩) (by assumption) ?_
    rotate_left
    · intro W hSW; (try dsimp only at hSW); go_simp; (try with_reducible rfl)
    simp only [Act.put, List.setIfInBounds_toArray, List.set_cons_zero, List.set_cons_succ, List.getElem_toArray, List.getElem_cons_zero]
    refine wpAnyH_take (i := 1) (v := ?_) rfl (by kernel_rfl) (by kernel_rfl) (by kernel_rfl) (fun _ _ _ h => h) (Or.inl ⟨by rfl, ?_⟩) (by assumption) ?_
    rotate_left
    · intro W hSW; (try dsimp only at hSW); go_simp; (try with_reducible rfl)
    simp only [Act.put, List.setIfInBounds_toArray, List.set_cons_zero, List.set_cons_succ, List.getElem_toArray, List.getElem_cons_zero, List.getElem_cons_succ]
    refine wpAnyH_take (i := 2) (v := ?_) rfl (by kernel_rfl) (by kernel_rfl) (by kernel_rfl) (fun _ _ _ h => h) (Or.inl ⟨by rfl, ?_⟩) (by assumption) ?_
    rotate_left
    · intro W hSW; (try dsimp only at hSW); go_simp; (try with_reducible rfl)
    simp only [Act.put, List.setIfInBounds_toArray, List.set_cons_zero, List.set_cons_succ, List.getElem_toArray, List.getElem_cons_zero, List.getElem_cons_succ]
    refine wpAnyH_take (i := 3) (v := ?_) rfl (by kernel_rfl) (by kernel_rfl) (by kernel_rfl) (fun _ _ _ h => h) (Or.inl ⟨by rfl, ?_⟩) (by assumption) ?_
    rotate_left
    · intro W hSW; (try dsimp only at hSW); go_simp; (try with_reducible rfl)
    simp only [Act.put, List.setIfInBounds_toArray, List.set_cons_zero, List.set_cons_succ, List.getElem_toArray, List.getElem_cons_zero, List.getElem_cons_succ]
    refine wpAnyH_take (i := 4) (v := ?_) rfl (by kernel_rfl) (by kernel_rfl) (by kernel_rfl) (fun _ _ _ h => h) (Or.inl ⟨by rfl, ?_⟩) (by assumption) ?_
    rotate_left
    · intro W hSW; (try dsimp only at hSW); go_simp; (try with_reducible rfl)
    simp only [Act.put, List.setIfInBounds_toArray, List.set_cons_zero, List.set_cons_succ, List.getElem_toArray, List.getElem_cons_zero, List.getElem_cons_succ]
    refine wpAnyH_take (i := 5) (v := ?_) rfl (by kernel_rfl) (by kernel_rfl) (by kernel_rfl) (fun _ _ _ h => h) (Or.inl ⟨by rfl, ?_⟩) (by assumption) ?_
    rotate_left
    · intro W hSW; (try dsimp only at hSW); go_simp; (try with_reducible rfl)
    simp only [Act.put, List.setIfInBounds_toArray, List.set_cons_zero, List.set_cons_succ, List.getElem_toArray, List.getElem_cons_zero, List.getElem_cons_succ]
    refine wpAnyH_take (i := 6) (v := ?_) rfl (by kernel_rfl) (by kernel_rfl) (by kernel_rfl) (fun _ _ _ h => h) (Or.inl ⟨by rfl, ?_⟩) (by assumption) ?_
    rotate_left
    · intro W hSW; (try dsimp only at hSW); go_simp; (try with_reducible rfl)
    simp only [Act.put, List.setIfInBounds_toArray, List.set_cons_zero, List.set_cons_succ, List.getElem_toArray, List.getElem_cons_zero, List.getElem_cons_succ]
    refine wpAnyH_take (i := 7) (v := ?_) rfl (by kernel_rfl) (by kernel_rfl) (by kernel_rfl) (fun _ _ _ h => h) (Or.inl ⟨by rfl, ?_⟩) (by assumption) ?_
    rotate_left
    · intro W hSW; (try dsimp only at hSW); go_simp; (try with_reducible rfl)
    simp only [Act.put, List.setIfInBounds_toArray, List.set_cons_zero, List.set_cons_succ, List.getElem_toArray, List.getElem_cons_zero, List.getElem_cons_succ]
    refine wpAnyH_take (i := 8) (v := ?_) rfl (by kernel_rfl) (by kernel_rfl) (by kernel_rfl) (fun _ _ _ h => h) (Or.inl ⟨by rfl, ?_⟩) (by assumption) ?_
    rotate_left
    · intro W hSW; (try dsimp only at hSW); go_simp; (try with_reducible rfl)
    simp only [Act.put, List.setIfInBounds_toArray, List.set_cons_zero, List.set_cons_succ, List.getElem_toArray, List.getElem_cons_zero, List.getElem_cons_succ]
    refine wpAnyH_take (i := 9) (v := ?_) rfl (by kernel_rfl) (by kernel_rfl) (by kernel_rfl) (fun _ _ _ h => h) (Or.inl ⟨by rfl, ?_⟩) (by assumption) ?_
    rotate_left
    · intro W hSW; (try dsimp only at hSW); go_simp; (try with_reducible rfl)
    simp only [Act.put, List.setIfInBounds_toArray, List.set_cons_zero, List.set_cons_succ, List.getElem_toArray, List.getElem_cons_zero, List.getElem_cons_succ]
    refine wpAnyH_take (i := 10) (v := ?_) rfl (by kernel_rfl) (by kernel_rfl) (by kernel_rfl) (fun _ _ _ h => h) (Or.inl ⟨by rfl, ?_⟩) (by assumption) ?_
    rotate_left
    · intro W hSW; (try dsimp only at hSW); go_simp; (try with_reducible rfl)
    simp only [Act.put, List.setIfInBounds_toArray, List.set_cons_zero, List.set_cons_succ, List.getElem_toArray, List.getElem_cons_zero, List.getElem_cons_succ]
    refine wpAnyH_take (i := 11) (v := ?_) rfl (by kernel_rfl) (by kernel_rfl) (by kernel_rfl) (fun _ _ _ h => h) (Or.inl ⟨by rfl, ?_⟩) (by assumption) ?_
    rotate_left
    · intro W hSW; (try dsimp only at hSW); go_simp; (try with_reducible rfl)
    simp only [Act.put, List.setIfInBounds_toArray, List.set_cons_zero, List.set_cons_succ, List.getElem_toArray, List.getElem_cons_zero, List.getElem_cons_succ]
    refine wpAnyH_take (i := 12) (v := ?_) rfl (by kernel_rfl) (by kernel_rfl) (by kernel_rfl) (fun _ _ _ h => h) (Or.inl ⟨by rfl, ?_⟩) (by assumption) ?_
    rotate_left
    · intro W hSW; (try dsimp only at hSW); go_simp; (try with_reducible rfl)
    simp only [Act.put, List.setIfInBounds_toArray, List.set_cons_zero, List.set_cons_succ, List.getElem_toArray, List.getElem_cons_zero, List.getElem_cons_succ]
    refine wpAnyH_done (by kernel_rfl) ?_ _
    go_wp2
    go_ret
    exact ⟨rfl, B1.out.trans (hHeld.mono B1s.out)⟩

end Go.Proofs.Ytknjnpmhbgeikaa.fnExactConsumeGroup
