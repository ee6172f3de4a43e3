/-
  The walk of laws.FnExactConsumeBytes returns true for every []byte: bytes are parsed as the reference reads them; the error is told by a negative length. No condition.
-/
import Derived.Test.YthjflhpgfbnobaaRows
import Derived.WalkKit
import Derived.ProofKit
import Derived.OpenShut
import Derived.ShutString
import Derived.ChangeOld
import Derived.Below
import Derived.Test.YthjflhpgfbnobaaSpecR2
import Derived.Test.YthjflhpgfbnobaaBetween
import Derived.BigQuiet
namespace Go.Proofs.Ythjflhpgfbnobaa.fnExactConsumeBytes
open Go.ChangeShapes Go.WideShapes Go.ChangeAt Go.RowKit
open Go.ChangeMaps (open_string shut_string)
set_option linter.unusedVariables false

def IsRow (k : IntKind) (w : World) (a : Option Addr) (len cap : Nat) (zs : List Int) : Prop :=
  (a = none ∧ len = 0 ∧ cap = 0 ∧ zs = []) ∨
  ∃ x, a = some x ∧ len ≤ cap ∧ cap ≤ maxLen ∧ zs.length = cap ∧ (∀ i, i < zs.length → w.cell? (x.add i) = some (.int k (zs.getD i 0))) ∧ ∀ n ∈ zs, (Lit.int k n).wf = true

theorem walk (a0 : Option Addr) (len0 cap0 : Nat) (z0 : List Int) (w : World) (w0 : IsRow .u8 w a0 len0 cap0 z0) :
    Calls Try.prog 9 #[.slice a0 len0 cap0] w fun e w' => e = .returned (.bool true) ∧ Below w.heap.size w w' := by
  obtain ⟨bs, hlen, hcap, hmax, hrd⟩ := mem.rd_of_row w0
  clear w0
  by_cases hbig : 2147483647 < len0
  · have hb : (2147483647 : Int) < (len0 : Int) := by omega
    have HR := bt.hide hrd
    clear hrd hlen
    go_enter Try.func9, Try.ntmps9
    go_wp2
    go_ret
    exact ⟨rfl, Below.refl _ _⟩
  · have hb : ¬ (2147483647 : Int) < (len0 : Int) := by omega
    have hm9 : len0 ≤ 9223372036854775807 := by omega
    rcases hv : pl.rbytes bs with _ | ⟨a, e⟩
    · have K1 := bt.hide (co.icb_no a0 len0 cap0 bs w hrd hlen.symm hcap hmax hv)
      have K2 := bt.hide (fun (W : World) (hW : Below w.heap.size w W) => sr.srb_no a0 len0 cap0 bs _ W (hrd.below hW) hlen.symm hm9 hv)
      clear hrd hlen hv
      go_enter Try.func9, Try.ntmps9
      go_wp2_with fail
      refine (K1.out).mono ?_
      rintro e w1 ⟨k, ⟨v1, rfl, hown1, hbel1⟩, hk⟩
      have B1 := bt.hide hbel1
      clear hown1 hbel1
      go_wp2_with fail
      refine (K2.out _ B1.out).mono ?_
      rintro e w2 ⟨rfl, rfl⟩
      go_wp2_with fail
      refine (co.works _).mono ?_
      rintro e w4 ⟨rfl, hb4⟩
      have HB4 := bt.hide (B1.out.trans (hb4.mono B1.out.size))
      clear hb4
      go_wp2_with fail
      go_ret
      exact ⟨rfl, HB4.out⟩
    · have hl := mem.rbytes_le hv
      obtain ⟨i0, hi, hz0, hz1, hz2⟩ := info_parts co.info8
      have K1 := bt.hide (co.icb_yes a0 len0 cap0 bs w a e hrd hlen.symm hcap hmax (by omega) hv)
      have K2 := bt.hide (fun (W : World) (hW : Below w.heap.size w W) => sr.srb_yes a0 len0 cap0 bs _ W a e (hrd.below hW) hlen.symm hm9 hv)
      have s1 := fun (W : World) => mem.run_between (w := W) (A := a0) (n := len0) (c := cap0) Try.underlying22 hi hz1 a e (by omega) (by omega) .i64
      have d2 := fun (W : World) (hW : Below w.heap.size w W) => (((hrd.below hW).cut a cap0 (by omega)).take (e - a)).conv (dst := 9) Try.underlying22 Try.underlying5 Try.underlying9 (e - a) (cap0 - a) (by simp; omega)
      clear hrd hlen hv hi hz0 hz1 hz2
      generalize (bs.drop a).take (e - a) = X at *
      have hd : ((mem.str X).toList == (mem.str X).toList) = true := by simp
      go_enter Try.func9, Try.ntmps9
      go_wp2_with fail
      refine (K1.out).mono ?_
      rintro e w1 ⟨v1, rfl, hown1, hbel1⟩
      obtain ⟨A1, c1, rfl, hc1, hm1, hr1, _⟩ := hown1.form
      have d1 := fun (W : World) (hW : Below w1.heap.size w1 W) => (hr1.below hW).conv (dst := 9) Try.underlying22 Try.underlying5 Try.underlying9 _ c1 rfl
      have d2' := fun (W : World) (hW : Below w1.heap.size w1 W) => d2 W (hbel1.trans (hW.mono hbel1.size))
      have B1 := bt.hide hbel1
      have B1s := bt.hide (show w.heap.size ≤ w1.heap.size from hbel1.size)
      clear hown1 hbel1 hr1 d2
      go_wp2_with fail
      refine (K2.out _ B1.out).mono ?_
      rintro e w2 ⟨rfl, rfl⟩
      go_wp2_with fail
      refine wp_region_held_drew (S := fun W' => Below w1.heap.size w1 W') (by kernel_rfl) (Below.refl _ _).drew (fun hHeld => ?_)
      refine wpAnyH_take (i := 0) (v := ?_) rfl (by kernel_rfl) (by kernel_rfl) (by kernel_rfl) (fun _ _ _ h => h) (Or.inl ⟨by rfl, ?_⟩) (by assumption) ?_
      rotate_left
      · intro W hSW; (try dsimp only at hSW); go_simp; (try with_reducible rfl)
      simp only [Act.put, List.setIfInBounds_toArray, List.set_cons_zero, List.set_cons_succ, List.getElem_toArray, List.getElem_cons_zero]
      refine wpAnyH_take (i := 1) (v := ?_) rfl (by kernel_rfl) (by kernel_rfl) (by kernel_rfl) (fun _ _ _ h => h) (Or.inl ⟨by rfl, ?_⟩) (by assumption) ?_
      rotate_left
      · intro W hSW; (try dsimp only at hSW); go_simp; (try with_reducible rfl)
      simp only [Act.put, List.setIfInBounds_toArray, List.set_cons_zero, List.set_cons_succ, List.getElem_toArray, List.getElem_cons_zero, List.getElem_cons_succ]
      refine wpAnyH_take (i := 2) (v := ?_) rfl (by kernel_rfl) (by kernel_rfl) (by kernel_rfl) (fun _ _ _ h => h) (Or.inl ⟨by rfl, ?_⟩) (by assumption) ?_
      rotate_left
      · intro W hSW; (try dsimp only at hSW); go_simp; (try with_reducible rfl)
      simp only [Act.put, List.setIfInBounds_toArray, List.set_cons_zero, List.set_cons_succ, List.getElem_toArray, List.getElem_cons_zero, List.getElem_cons_succ]
      refine wpAnyH_take (i := 3) (v := ?_) rfl (by kernel_rfl) (by kernel_rfl) (by kernel_rfl) (fun _ _ _ h => h) (Or.inl ⟨by rfl, ?_⟩) (by assumption) ?_
      rotate_left
      · intro W hSW; (try dsimp only at hSW); go_simp; (try with_reducible rfl)
      simp only [Act.put, List.setIfInBounds_toArray, List.set_cons_zero, List.set_cons_succ, List.getElem_toArray, List.getElem_cons_zero, List.getElem_cons_succ]
      refine wpAnyH_take (i := 4) (v := ?_) rfl (by kernel_rfl) (by kernel_rfl) (by kernel_rfl) (fun _ _ _ h => h) (Or.inl ⟨by rfl, ?_⟩) (by assumption) ?_
      rotate_left
      · intro W hSW; (try dsimp only at hSW); go_simp; (try with_reducible rfl)
      simp only [Act.put, List.setIfInBounds_toArray, List.set_cons_zero, List.set_cons_succ, List.getElem_toArray, List.getElem_cons_zero, List.getElem_cons_succ]
      refine wpAnyH_take (i := 5) (v := ?_) rfl (by kernel_rfl) (by kernel_rfl) (by kernel_rfl) (fun _ _ _ h => h) (Or.inl ⟨by rfl, ?_⟩) (by assumption) ?_
      rotate_left
      · intro W hSW; (try dsimp only at hSW); go_simp; (try with_reducible rfl)
      simp only [Act.put, List.setIfInBounds_toArray, List.set_cons_zero, List.set_cons_succ, List.getElem_toArray, List.getElem_cons_zero, List.getElem_cons_succ]
      refine wpAnyH_take (i := 6) (v := ?_) rfl (by kernel_rfl) (by kernel_rfl) (by kernel_rfl) (fun _ _ _ h => h) (Or.inl ⟨by rfl, ?_⟩) (by assumption) ?_
      rotate_left
      · intro W hSW; (try dsimp only at hSW); go_simp; (try with_reducible rfl)
      simp only [Act.put, List.setIfInBounds_toArray, List.set_cons_zero, List.set_cons_succ, List.getElem_toArray, List.getElem_cons_zero, List.getElem_cons_succ]
      refine wpAnyH_take (i := 7) (v := ?_) rfl (by kernel_rfl) (by kernel_rfl) (by kernel_rfl) (fun _ _ _ h => h) (Or.inl ⟨by rfl, ?_⟩) (by assumption) ?_
      rotate_left
      · intro W hSW; (try dsimp only at hSW); go_simp; (try with_reducible rfl)
      simp only [Act.put, List.setIfInBounds_toArray, List.set_cons_zero, List.set_cons_succ, List.getElem_toArray, List.getElem_cons_zero, List.getElem_cons_succ]
      refine wpAnyH_take (i := 8) (v := ?_) rfl (by kernel_rfl) (by kernel_rfl) (by kernel_rfl) (fun _ _ _ h => h) (Or.inl ⟨by rfl, ?_⟩) (by assumption) ?_
      rotate_left
      · intro W hSW; (try dsimp only at hSW); go_simp; (try with_reducible rfl)
      simp only [Act.put, List.setIfInBounds_toArray, List.set_cons_zero, List.set_cons_succ, List.getElem_toArray, List.getElem_cons_zero, List.getElem_cons_succ]
      refine wpAnyH_take (i := 9) (v := ?_) rfl (by kernel_rfl) (by kernel_rfl) (by kernel_rfl) (fun _ _ _ h => h) (Or.inl ⟨by rfl, ?_⟩) (by assumption) ?_
      rotate_left
      · intro W hSW; (try dsimp only at hSW); go_simp; (try with_reducible rfl)
      simp only [Act.put, List.setIfInBounds_toArray, List.set_cons_zero, List.set_cons_succ, List.getElem_toArray, List.getElem_cons_zero, List.getElem_cons_succ]
      refine wpAnyH_take (i := 10) (v := ?_) rfl (by kernel_rfl) (by kernel_rfl) (by kernel_rfl) (fun _ _ _ h => h) (Or.inl ⟨by rfl, ?_⟩) (by assumption) ?_
      rotate_left
      · intro W hSW; (try dsimp only at hSW); go_simp; (try with_reducible rfl)
      simp only [Act.put, List.setIfInBounds_toArray, List.set_cons_zero, List.set_cons_succ, List.getElem_toArray, List.getElem_cons_zero, List.getElem_cons_succ]
      refine wpAnyH_take (i := 11) (v := ?_) rfl (by kernel_rfl) (by kernel_rfl) (by kernel_rfl) (fun _ _ _ h => h) (Or.inl ⟨by rfl, ?_⟩) (by assumption) ?_
      rotate_left
      · intro W hSW; (try dsimp only at hSW); go_simp; (try with_reducible rfl)
      simp only [Act.put, List.setIfInBounds_toArray, List.set_cons_zero, List.set_cons_succ, List.getElem_toArray, List.getElem_cons_zero, List.getElem_cons_succ]
      refine wpAnyH_take (i := 12) (v := ?_) rfl (by kernel_rfl) (by kernel_rfl) (by kernel_rfl) (fun _ _ _ h => h) (Or.inl ⟨by rfl, ?_⟩) (by assumption) ?_
      rotate_left
      · intro W hSW; (try dsimp only at hSW); go_simp; (try with_reducible rfl)
      simp only [Act.put, List.setIfInBounds_toArray, List.set_cons_zero, List.set_cons_succ, List.getElem_toArray, List.getElem_cons_zero, List.getElem_cons_succ]
      refine wpAnyH_take (i := 13) (v := ?_) rfl (by kernel_rfl) (by kernel_rfl) (by kernel_rfl) (fun _ _ _ h => h) (Or.inl ⟨by rfl, ?_⟩) (by assumption) ?_
      rotate_left
      · intro W hSW; (try dsimp only at hSW); go_simp; (try with_reducible rfl)
      simp only [Act.put, List.setIfInBounds_toArray, List.set_cons_zero, List.set_cons_succ, List.getElem_toArray, List.getElem_cons_zero, List.getElem_cons_succ]
      refine wpAnyH_done (by kernel_rfl) ?_ _
      go_wp2
      go_ret
      exact ⟨rfl, B1.out.trans (hHeld.mono B1s.out)⟩

end Go.Proofs.Ythjflhpgfbnobaa.fnExactConsumeBytes
