/-
  The walk of laws.FnExactAppendTag returns true for every []byte, int32 and int8: a tag is appended as a number, for numbers in 1..MaxNumber and types in 0..5. No condition.
-/
import Derived.Test.YtinlekencdfafaaRows
import Derived.WalkKit
import Derived.ProofKit
import Derived.OpenShut
import Derived.ShutString
import Derived.ChangeOld
import Derived.Below
import Derived.Test.YtinlekencdfafaaAppend3
import Derived.Test.YtinlekencdfafaaSpecW
import Derived.Test.YtinlekencdfafaaArg
namespace Go.Proofs.Ytinlekencdfafaa.fnExactAppendTag
open Go.ChangeShapes Go.WideShapes Go.ChangeAt Go.RowKit
open Go.ChangeMaps (open_string shut_string)
set_option linter.unusedVariables false

def IsRow (k : IntKind) (w : World) (a : Option Addr) (len cap : Nat) (zs : List Int) : Prop :=
  (a = none ∧ len = 0 ∧ cap = 0 ∧ zs = []) ∨
  ∃ x, a = some x ∧ len ≤ cap ∧ cap ≤ maxLen ∧ zs.length = cap ∧ (∀ i, i < zs.length → w.cell? (x.add i) = some (.int k (zs.getD i 0))) ∧ ∀ n ∈ zs, (Lit.int k n).wf = true

theorem walk (a0 : Option Addr) (len0 cap0 : Nat) (z0 : List Int) (a1 : Int) (a2 : Int) (w : World) (w0 : IsRow .u8 w a0 len0 cap0 z0) (w1 : (Lit.int .i32 a1).wf = true) (w2 : (Lit.int .i8 a2).wf = true) :
    Calls Try.prog 13 #[.slice a0 len0 cap0, .int .i32 a1, .int .i8 a2] w fun e w' => e = .returned (.bool true) ∧ Below w.heap.size w w' := by
  obtain ⟨bs, hlen, hcap, hmax, hrd⟩ := mem.rd_of_row w0
  clear w0
  by_cases hbig : 2147483647 < len0
  · have hb : (2147483647 : Int) < (len0 : Int) := by omega
    have HR := bt.hide hrd
    clear hrd hlen
    go_enter Try.func13, Try.ntmps13
    go_wp2
    go_ret
    exact ⟨rfl, Below.refl _ _⟩
  have hb : ¬ (2147483647 : Int) < (len0 : Int) := by omega
  by_cases hnum : 1 ≤ a1 ∧ a1 ≤ 536870911
  rotate_left
  · have K0 := bt.hide (fun (W : World) => pu.numOk_no a1 W (by omega))
    have HR := bt.hide hrd
    clear hrd hlen
    go_enter Try.func13, Try.ntmps13
    go_wp2_with fail
    refine (K0.out _).mono ?_
    rintro e w' ⟨rfl, rfl⟩
    go_wp2_with fail
    go_ret
    exact ⟨rfl, Below.refl _ _⟩
  obtain ⟨g0, g1⟩ := hnum
  have K0 := bt.hide (fun (W : World) => pu.numOk_yes a1 W g0 g1)
  by_cases g2 : a2 < 0
  · have hd : decide (a2 < 0) = true := by simpa using g2
    have HR := bt.hide hrd
    clear hrd hlen
    go_enter Try.func13, Try.ntmps13
    go_wp2_with fail
    refine (K0.out _).mono ?_
    rintro e w' ⟨rfl, rfl⟩
    go_wp2_with fail
    go_ret
    exact ⟨rfl, Below.refl _ _⟩
  have hd : decide (a2 < 0) = false := by simpa using g2
  by_cases g3 : 5 < a2
  · have hd2 : decide (5 < a2) = true := by simpa using g3
    have HR := bt.hide hrd
    clear hrd hlen
    go_enter Try.func13, Try.ntmps13
    go_wp2_with fail
    refine (K0.out _).mono ?_
    rintro e w' ⟨rfl, rfl⟩
    go_wp2_with fail
    go_ret
    exact ⟨rfl, Below.refl _ _⟩
  have hd2 : decide (5 < a2) = false := by simpa using g3
  · have hbs : bs.length ≤ 2147483647 := by omega
    have hel := pl.enc_len_le (pl.tagN a1 a2)
    have K1 := bt.hide (fun (W : World) (hW : Below w.heap.size w W) => ap.iAppendTag a0 bs len0 cap0 a1 a2 W (by omega) (by omega) (by omega) (by omega) ((hrd.below hW).more hW.size) hlen.symm (by omega))
    have K2 := bt.hide (fun (W : World) => pu.stag a1 a2 W (by omega) (by omega) (by omega) (by omega))
    have K3 := bt.hide (fun (W : World) => sw.svar W.heap.size (a1 * 8 + a2) W (by omega) (by omega) (Nat.le_refl _))
    rw [show (a1 * 8 + a2).toNat = pl.tagN a1 a2 by unfold pl.tagN; omega] at K3
    have c0 := fun (W : World) (hW : Below w.heap.size w W) => (hrd.below hW).conv (dst := 9) Try.underlying22 Try.underlying5 Try.underlying9 len0 cap0 hlen.symm
    have HE := bt.hide (mem.str_cat bs (pl.enc (pl.tagN a1 a2)))
    have hns : ¬ 9223372036854775807 < (mem.str bs).size + (mem.str (pl.enc (pl.tagN a1 a2))).size := by rw [mem.str_size, mem.str_size]; omega
    clear hrd hlen hbig hel
    go_enter Try.func13, Try.ntmps13
    go_wp2_with fail
    refine (K0.out _).mono ?_
    rintro e w' ⟨rfl, rfl⟩
    go_wp2_with fail
    refine wp_region_held_drew (S := fun W' => Below w.heap.size w W') (by kernel_rfl) (Below.refl _ _).drew (fun hHeld => ?_)
    refine wpAnyH_take (i := 0) (v := ?_) rfl (by kernel_rfl) (by kernel_rfl) (by kernel_rfl) (fun _ _ _ h => h) (Or.inl ⟨by rfl, ?_⟩) (by assumption) ?_
    rotate_left
    · intro W hSW; (try dsimp only at hSW); go_simp; (try with_reducible rfl)
    simp only [Act.put, List.setIfInBounds_toArray, List.set_cons_zero, List.set_cons_succ, List.getElem_toArray, List.getElem_cons_zero]
    refine wpAnyH_take (i := 1) (v := ?_) rfl (by kernel_rfl) (by kernel_rfl) (by kernel_rfl) (fun _ _ _ h => h) (Or.inl ⟨by rfl, ?_⟩) (by assumption) ?_
    rotate_left
    · intro W hSW; (try dsimp only at hSW); go_simp; (try with_reducible rfl)
    simp only [Act.put, List.setIfInBounds_toArray, List.set_cons_zero, List.set_cons_succ, List.getElem_toArray, List.getElem_cons_zero, List.getElem_cons_succ]
    refine wpAnyH_take (i := 2) (v := ?_) rfl (by kernel_rfl) (by kernel_rfl) (by kernel_rfl) (fun _ _ _ h => h) (Or.inl ⟨by rfl, ?_⟩) (by assumption) ?_
    rotate_left
    · intro W hSW; (try dsimp only at hSW); go_simp; (try with_reducible rfl)
    simp only [Act.put, List.setIfInBounds_toArray, List.set_cons_zero, List.set_cons_succ, List.getElem_toArray, List.getElem_cons_zero, List.getElem_cons_succ]
    refine wpAnyH_take (i := 5) (v := ?_) rfl (by kernel_rfl) (by kernel_rfl) (by kernel_rfl) (fun _ _ _ h => h) (Or.inl ⟨by rfl, ?_⟩) (by assumption) ?_
    rotate_left
    · intro W hSW; (try dsimp only at hSW); go_simp; (try with_reducible rfl)
    simp only [Act.put, List.setIfInBounds_toArray, List.set_cons_zero, List.set_cons_succ, List.getElem_toArray, List.getElem_cons_zero, List.getElem_cons_succ]
    refine wpAnyH_take (i := 6) (v := ?_) rfl (by kernel_rfl) (by kernel_rfl) (by kernel_rfl) (fun _ _ _ h => h) (Or.inl ⟨by rfl, ?_⟩) (by assumption) ?_
    rotate_left
    · intro W hSW; (try dsimp only at hSW); go_simp; (try with_reducible rfl)
    simp only [Act.put, List.setIfInBounds_toArray, List.set_cons_zero, List.set_cons_succ, List.getElem_toArray, List.getElem_cons_zero, List.getElem_cons_succ]
    refine wpAnyH_take (i := 7) (v := ?_) rfl (by kernel_rfl) (by kernel_rfl) (by kernel_rfl) (fun _ _ _ h => h) (Or.inl ⟨by rfl, ?_⟩) (by assumption) ?_
    rotate_left
    · intro W hSW; (try dsimp only at hSW); go_simp; (try with_reducible rfl)
    simp only [Act.put, List.setIfInBounds_toArray, List.set_cons_zero, List.set_cons_succ, List.getElem_toArray, List.getElem_cons_zero, List.getElem_cons_succ]
    refine wpAnyH_take (i := 8) (v := ?_) rfl (by kernel_rfl) (by kernel_rfl) (by kernel_rfl) (fun _ _ _ h => h) (Or.inl ⟨by rfl, ?_⟩) (by assumption) ?_
    rotate_left
    · intro W hSW; (try dsimp only at hSW); go_simp; (try with_reducible rfl)
    simp only [Act.put, List.setIfInBounds_toArray, List.set_cons_zero, List.set_cons_succ, List.getElem_toArray, List.getElem_cons_zero, List.getElem_cons_succ]
    refine wpAnyH_ready (rs := [3]) (by kernel_rfl) (by simp) ?_
    refine AllReadyH.cons rfl (fun K hK => ?_) AllReadyH.nil
    go_simp
    refine (K1.out _ (by assumption)).mono ?_
    rintro e w1 ⟨v1, rfl, hown1, hbel1⟩
    obtain ⟨A1, c1, rfl, _, _, hr1, _⟩ := hown1.form
    have B1 := bt.hide ((Below.refl _ _).drew.trans hbel1)
    have B1s := bt.hide (show w.heap.size ≤ w1.heap.size from hbel1.size)
    have d1 := fun (W : World) (hW : Below w1.heap.size w1 W) => (hr1.below hW).conv (dst := 9) Try.underlying22 Try.underlying5 Try.underlying9 _ c1 rfl
    simp only [List.length_append] at d1
    clear hown1 hbel1 hr1
    go_wp2_with fail
    refine hK.out _ _ B1.out (fun hHeld1 => ?_)
    clear hK K hHeld
    refine mem.held_more (S' := fun W' => Below w1.heap.size w1 W') (fun W hW => B1.out.trans (hW.mono B1s.out)) _ _ _ _ ?_
    have hHeld2 : Below w1.heap.size w1 w1 := Below.refl _ _
    clear hHeld1
    refine wpAnyH_take (i := 4) (v := ?_) rfl (by kernel_rfl) (by kernel_rfl) (by kernel_rfl) (fun _ _ _ h => h) (Or.inl ⟨by rfl, ?_⟩) (by assumption) ?_
    rotate_left
    · intro W hSW; (try dsimp only at hSW); go_simp; (try with_reducible rfl)
    simp only [Act.put, List.setIfInBounds_toArray, List.set_cons_zero, List.set_cons_succ, List.getElem_toArray, List.getElem_cons_zero, List.getElem_cons_succ]
    refine wpAnyH_ready (rs := [9]) (by kernel_rfl) (by simp) ?_
    refine AllReadyH.cons rfl (fun K hK => ?_) AllReadyH.nil
    go_simp
    refine (K2.out _).mono ?_
    rintro e w' ⟨rfl, rfl⟩
    go_wp2_with fail
    refine hK.out _ _ hHeld2 (fun hHeld2b => ?_)
    clear hK K
    refine wpAnyH_ready (rs := [10]) (by kernel_rfl) (by simp) ?_
    refine AllReadyH.cons rfl (fun K hK => ?_) AllReadyH.nil
    go_simp
    refine (K3.out _).mono ?_
    rintro e w2 ⟨v2, rfl, hown2, hbel2⟩
    obtain ⟨A2, c2, rfl, _, _, hr2, _⟩ := hown2.form
    have B2 := bt.hide (B1.out.trans (hbel2.mono B1s.out))
    have d2 := fun (W : World) (hW : Below w2.heap.size w2 W) => (hr2.below hW).conv (dst := 9) Try.underlying22 Try.underlying5 Try.underlying9 _ c2 rfl
    clear hown2 hr2
    go_wp2_with fail
    refine hK.out _ _ hbel2 (fun hHeld3 => ?_)
    clear hK K hHeld2
    refine mem.held_more (S' := fun W' => Below w2.heap.size w2 W') (fun W hW => hHeld3.trans (hW.mono hHeld3.size)) _ _ _ _ ?_
    have hHeld4 : Below w2.heap.size w2 w2 := Below.refl _ _
    clear hHeld3 hbel2
    refine wpAnyH_take (i := 11) (v := ?_) rfl (by kernel_rfl) (by kernel_rfl) (by kernel_rfl) (fun _ _ _ h => h) (Or.inl ⟨by rfl, ?_⟩) (by assumption) ?_
    rotate_left
    · intro W hSW; (try dsimp only at hSW); go_simp; (try with_reducible rfl)
    simp only [Act.put, List.setIfInBounds_toArray, List.set_cons_zero, List.set_cons_succ, List.getElem_toArray, List.getElem_cons_zero, List.getElem_cons_succ]
    refine wpAnyH_take (i := 12) (v := ?_) rfl (by kernel_rfl) (by kernel_rfl) (by kernel_rfl) (fun _ _ _ h => h) (Or.inl ⟨by rfl, ?_⟩) (by assumption) ?_
    rotate_left
    · intro W hSW; (try dsimp only at hSW); go_simp; (try with_reducible rfl)
    simp only [Act.put, List.setIfInBounds_toArray, List.set_cons_zero, List.set_cons_succ, List.getElem_toArray, List.getElem_cons_zero, List.getElem_cons_succ]
    refine wpAnyH_take (i := 13) (v := ?_) rfl (by kernel_rfl) (by kernel_rfl) (by kernel_rfl) (fun _ _ _ h => h) (Or.inl ⟨by rfl, ?_⟩) (by assumption) ?_
    rotate_left
    · intro W hSW; (try dsimp only at hSW); go_simp; (try with_reducible rfl)
    simp only [Act.put, List.setIfInBounds_toArray, List.set_cons_zero, List.set_cons_succ, List.getElem_toArray, List.getElem_cons_zero, List.getElem_cons_succ]
    refine wpAnyH_take (i := 14) (v := ?_) rfl (by kernel_rfl) (by kernel_rfl) (by kernel_rfl) (fun _ _ _ h => h) (Or.inl ⟨by rfl, ?_⟩) (by assumption) ?_
    rotate_left
    · intro W hSW; (try dsimp only at hSW); go_simp; (try with_reducible rfl)
    simp only [Act.put, List.setIfInBounds_toArray, List.set_cons_zero, List.set_cons_succ, List.getElem_toArray, List.getElem_cons_zero, List.getElem_cons_succ]
    refine wpAnyH_done (by kernel_rfl) ?_ _
    rw [HE.out]
    go_wp2
    go_ret
    exact ⟨rfl, B2.out⟩

end Go.Proofs.Ytinlekencdfafaa.fnExactAppendTag
