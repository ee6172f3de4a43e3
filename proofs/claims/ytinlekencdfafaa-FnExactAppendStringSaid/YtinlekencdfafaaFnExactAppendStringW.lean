/-
  The walk of laws.FnExactAppendString returns true for every []byte and every string: a text is appended as its bytes are. No condition.
-/
import Derived.Test.YtinlekencdfafaaRows
import Derived.WalkKit
import Derived.ProofKit
import Derived.OpenShut
import Derived.ShutString
import Derived.ChangeOld
import Derived.Below
import Derived.Test.YtinlekencdfafaaStrB
import Derived.Test.YtinlekencdfafaaCons2
namespace Go.Proofs.Ytinlekencdfafaa.fnExactAppendString
open Go.ChangeShapes Go.WideShapes Go.ChangeAt Go.RowKit
open Go.ChangeMaps (open_string shut_string)
set_option linter.unusedVariables false

def IsRow (k : IntKind) (w : World) (a : Option Addr) (len cap : Nat) (zs : List Int) : Prop :=
  (a = none ∧ len = 0 ∧ cap = 0 ∧ zs = []) ∨
  ∃ x, a = some x ∧ len ≤ cap ∧ cap ≤ maxLen ∧ zs.length = cap ∧ (∀ i, i < zs.length → w.cell? (x.add i) = some (.int k (zs.getD i 0))) ∧ ∀ n ∈ zs, (Lit.int k n).wf = true

theorem walk (a0 : Option Addr) (len0 cap0 : Nat) (z0 : List Int) (a1 : ByteArray) (w : World) (w0 : IsRow .u8 w a0 len0 cap0 z0) (w1 : a1.size ≤ maxLen) :
    Calls Try.prog 14 #[.slice a0 len0 cap0, .string a1] w fun e w' => e = .returned (.bool true) ∧ Below w.heap.size w w' := by
  obtain ⟨bs, hlen, hcap, hmax, hrd⟩ := mem.rd_of_row w0
  clear w0
  by_cases hbig : 2147483647 < len0
  · have hb : decide ((2147483647 : Int) < (len0 : Int)) = true := by simp; omega
    have HR := bt.hide hrd
    clear hrd hlen
    go_enter Try.func14, Try.ntmps14
    go_wp2
    go_ret
    exact ⟨rfl, Below.refl _ _⟩
  have hb : decide ((2147483647 : Int) < (len0 : Int)) = false := by simp; omega
  by_cases hbig1 : 2147483647 < a1.size
  · have hb1 : decide ((2147483647 : Int) < (a1.size : Int)) = true := by simp; omega
    have HR := bt.hide hrd
    clear hrd hlen
    go_enter Try.func14, Try.ntmps14
    go_wp2
    go_ret
    exact ⟨rfl, Below.refl _ _⟩
  have hb1 : decide ((2147483647 : Int) < (a1.size : Int)) = false := by simp; omega
  · have hel := pl.enc_len_le a1.size
    have hnl := ap.nums_length a1
    have K1 := bt.hide (fun (W : World) (hW : Below w.heap.size w W) => ap.ias a0 bs len0 cap0 a1 W ((hrd.below hW).more hW.size) hlen.symm (by omega) (by omega))
    have K2 := bt.hide (fun (A : Option Addr) (c : Nat) (W : World) (hW : Below w.heap.size w W) (hA : mem.Rd W W.heap.size A (ap.nums a1)) => ap.iab a0 bs len0 cap0 A a1.size c (ap.nums a1) W ((hrd.below hW).more hW.size) hlen.symm hA hnl.symm (by omega) (by omega))
    have cv := fun (W : World) => ap.run_str a1 W
    have HB := bt.hide (fun (W : World) => ap.bytesWorld_below W 5 a1)
    have HD := bt.hide (fun (W : World) => ap.bytesWorld_rd W 5 a1)
    generalize bs ++ (pl.enc a1.size ++ ap.nums a1) = R at *
    clear hrd hlen hbig hel hnl
    go_enter Try.func14, Try.ntmps14
    go_wp2_with fail
    refine wp_region_held_drew (S := fun W' => Below w.heap.size w W') (by kernel_rfl) (Below.refl _ _).drew (fun hHeld => ?_)
    refine wpAnyH_take (i := 0) (v := ?_) rfl (by kernel_rfl) (by kernel_rfl) (by kernel_rfl) (fun _ _ _ h => h) (Or.inl ⟨by rfl, ?_⟩) (by assumption) ?_
    rotate_left
    · intro W hSW; (try dsimp only at hSW); go_simp; (try with_reducible rfl)
    simp only [Act.put, List.setIfInBounds_toArray, List.set_cons_zero, List.set_cons_succ, List.getElem_toArray, List.getElem_cons_zero]
    refine wpAnyH_take (i := 1) (v := ?_) rfl (by kernel_rfl) (by kernel_rfl) (by kernel_rfl) (fun _ _ _ h => h) (Or.inl ⟨by rfl, ?_⟩) (by assumption) ?_
    rotate_left
    · intro W hSW; (try dsimp only at hSW); go_simp; (try with_reducible rfl)
    simp only [Act.put, List.setIfInBounds_toArray, List.set_cons_zero, List.set_cons_succ, List.getElem_toArray, List.getElem_cons_zero, List.getElem_cons_succ]
    refine wpAnyH_take (i := 4) (v := ?_) rfl (by kernel_rfl) (by kernel_rfl) (by kernel_rfl) (fun _ _ _ h => h) (Or.inl ⟨by rfl, ?_⟩) (by assumption) ?_
    rotate_left
    · intro W hSW; (try dsimp only at hSW); go_simp; (try with_reducible rfl)
    simp only [Act.put, List.setIfInBounds_toArray, List.set_cons_zero, List.set_cons_succ, List.getElem_toArray, List.getElem_cons_zero, List.getElem_cons_succ]
    refine wpAnyH_take (i := 5) (v := ?_) rfl (by kernel_rfl) (by kernel_rfl) (by kernel_rfl) (fun _ _ _ h => h) (Or.inl ⟨by rfl, ?_⟩) (by assumption) ?_
    rotate_left
    · intro W hSW; (try dsimp only at hSW); go_simp; (try with_reducible rfl)
    simp only [Act.put, List.setIfInBounds_toArray, List.set_cons_zero, List.set_cons_succ, List.getElem_toArray, List.getElem_cons_zero, List.getElem_cons_succ]
    refine wpAnyH_ready (rs := [2, 6]) (by kernel_rfl) (by simp) ?_
    refine AllReadyH.cons rfl (fun K hK => ?_) (AllReadyH.cons rfl (fun K hK => ?_) AllReadyH.nil)
    · go_simp
      refine (K1.out _ (by assumption)).mono ?_
      rintro e w1 ⟨v1, rfl, hown1, hbel1⟩
      obtain ⟨A1, c1, rfl, _, _, hr1, _⟩ := hown1.form
      have B1 := bt.hide ((Below.refl _ _).drew.trans hbel1)
      have B1s := bt.hide (show w.heap.size ≤ w1.heap.size from hbel1.size)
      have d1 := fun (W : World) (hW : Below w1.heap.size w1 W) => (hr1.below hW).conv (dst := 9) Try.underlying22 Try.underlying5 Try.underlying9 _ c1 rfl
      clear hown1 hbel1 hr1
      go_wp2_with fail
      refine hK.out _ _ B1.out (fun hHeld1 => ?_)
      clear hK K hHeld
      refine mem.held_more (S' := fun W' => Below w1.heap.size w1 W') (fun W hW => B1.out.trans (hW.mono B1s.out)) _ _ _ _ ?_
      have hHeld2 : Below w1.heap.size w1 w1 := Below.refl _ _
      clear hHeld1
      refine wpAnyH_take (i := 3) (v := ?_) rfl (by kernel_rfl) (by kernel_rfl) (by kernel_rfl) (fun _ _ _ h => h) (Or.inl ⟨by rfl, ?_⟩) (by assumption) ?_
      rotate_left
      · intro W hSW; (try dsimp only at hSW); go_simp; (try with_reducible rfl)
      simp only [Act.put, List.setIfInBounds_toArray, List.set_cons_zero, List.set_cons_succ, List.getElem_toArray, List.getElem_cons_zero, List.getElem_cons_succ]
      refine wpAnyH_ready (rs := [6]) (by kernel_rfl) (by simp) ?_
      refine AllReadyH.cons rfl (fun K hK => ?_) AllReadyH.nil
      go_simp
      have b2 := HB.out w1
      have r2 := HD.out w1
      generalize Lib.bytesWorld w1 5 a1 = w2 at *
      generalize grownCap w1 a1.size 0 5 = c2 at *
      have B2 := bt.hide (B1.out.trans (b2.mono B1s.out))
      have R2 := bt.hide r2
      clear r2
      refine hK.out _ _ b2 (fun hHeld3 => ?_)
      clear hK K
      refine wpAnyH_ready (rs := [7]) (by kernel_rfl) (by simp) ?_
      refine AllReadyH.cons rfl (fun K hK => ?_) AllReadyH.nil
      go_simp
      refine (K2.out _ _ _ B2.out R2.out).mono ?_
      rintro e w3 ⟨v3, rfl, hown3, hbel3⟩
      obtain ⟨A3, c3, rfl, _, _, hr3, _⟩ := hown3.form
      have B3 := bt.hide (B2.out.trans (hbel3.mono B2.out.size))
      have B3s := bt.hide (show w.heap.size ≤ w3.heap.size from B3.out.size)
      have hb3 : Below w1.heap.size w1 w3 := b2.trans (hbel3.mono b2.size)
      have d3 := fun (W : World) (hW : Below w3.heap.size w3 W) => (hr3.below hW).conv (dst := 9) Try.underlying22 Try.underlying5 Try.underlying9 _ c3 rfl
      clear hown3 hr3
      go_wp2_with fail
      refine hK.out _ _ hb3 (fun hHeld5 => ?_)
      clear hK K
      refine mem.held_more (S' := fun W' => Below w3.heap.size w3 W') (fun W hW => hHeld5.trans (hW.mono hHeld5.size)) _ _ _ _ ?_
      have hHeld6 : Below w3.heap.size w3 w3 := Below.refl _ _
      clear hHeld5 hb3
      refine wpAnyH_take (i := 8) (v := ?_) rfl (by kernel_rfl) (by kernel_rfl) (by kernel_rfl) (fun _ _ _ h => h) (Or.inl ⟨by rfl, ?_⟩) (by assumption) ?_
      rotate_left
      · intro W hSW; (try dsimp only at hSW); go_simp; (try with_reducible rfl)
      simp only [Act.put, List.setIfInBounds_toArray, List.set_cons_zero, List.set_cons_succ, List.getElem_toArray, List.getElem_cons_zero, List.getElem_cons_succ]
      refine wpAnyH_take (i := 9) (v := ?_) rfl (by kernel_rfl) (by kernel_rfl) (by kernel_rfl) (fun _ _ _ h => h) (Or.inl ⟨by rfl, ?_⟩) (by assumption) ?_
      rotate_left
      · intro W hSW; (try dsimp only at hSW); go_simp; (try with_reducible rfl)
      simp only [Act.put, List.setIfInBounds_toArray, List.set_cons_zero, List.set_cons_succ, List.getElem_toArray, List.getElem_cons_zero, List.getElem_cons_succ]
      refine wpAnyH_take (i := 10) (v := ?_) rfl (by kernel_rfl) (by kernel_rfl) (by kernel_rfl) (fun _ _ _ h => h) (Or.inl ⟨by rfl, ?_⟩) (by assumption) ?_
      rotate_left
      · intro W hSW; (try dsimp only at hSW); go_simp; (try with_reducible rfl)
      simp only [Act.put, List.setIfInBounds_toArray, List.set_cons_zero, List.set_cons_succ, List.getElem_toArray, List.getElem_cons_zero, List.getElem_cons_succ]
      refine wpAnyH_ready (rs := [11]) (by kernel_rfl) (by simp) ?_
      refine AllReadyH.cons rfl (fun K hK => ?_) AllReadyH.nil
      go_simp
      refine (co.works _).mono ?_
      rintro e w4 ⟨rfl, hb4⟩
      have B4 := bt.hide (B3.out.trans (hb4.mono B3s.out))
      have hb4' := hb4
      clear hb4
      go_wp2_with fail
      refine hK.out _ _ hb4' (fun hHeld7 => ?_)
      clear hK K
      refine wpAnyH_take (i := 12) (v := ?_) rfl (by kernel_rfl) (by kernel_rfl) (by kernel_rfl) (fun _ _ _ h => h) (Or.inl ⟨by rfl, ?_⟩) (by assumption) ?_
      rotate_left
      · intro W hSW; (try dsimp only at hSW); go_simp; (try with_reducible rfl)
      simp only [Act.put, List.setIfInBounds_toArray, List.set_cons_zero, List.set_cons_succ, List.getElem_toArray, List.getElem_cons_zero, List.getElem_cons_succ]
      refine wpAnyH_take (i := 13) (v := ?_) rfl (by kernel_rfl) (by kernel_rfl) (by kernel_rfl) (fun _ _ _ h => h) (Or.inl ⟨by rfl, ?_⟩) (by assumption) ?_
      rotate_left
      · intro W hSW; (try dsimp only at hSW); go_simp; (try with_reducible rfl)
      simp only [Act.put, List.setIfInBounds_toArray, List.set_cons_zero, List.set_cons_succ, List.getElem_toArray, List.getElem_cons_zero, List.getElem_cons_succ]
      refine wpAnyH_done (by kernel_rfl) ?_ _
      go_wp2
      go_ret
      exact ⟨rfl, B4.out⟩
    · go_simp
      have b1 := HB.out w.drew
      have r1 := HD.out w.drew
      have es : w.drew.heap.size = w.heap.size := rfl
      rw [es] at b1 r1
      generalize Lib.bytesWorld w.drew 5 a1 = w0 at *
      generalize grownCap w.drew a1.size 0 5 = c2 at *
      have B0 : Hid (Below w.heap.size w w0) := bt.hide (hHeld.trans b1)
      have B0s := bt.hide (show w.heap.size ≤ w0.heap.size from b1.size)
      have R2 := bt.hide r1
      clear r1
      refine hK.out _ _ B0.out (fun hHeld1 => ?_)
      clear hK K hHeld
      refine wpAnyH_ready (rs := [2]) (by kernel_rfl) (by simp) ?_
      refine AllReadyH.cons rfl (fun K hK => ?_) AllReadyH.nil
      go_simp
      refine (K1.out _ (by assumption)).mono ?_
      rintro e w1 ⟨v1, rfl, hown1, hbel1⟩
      obtain ⟨A1, c1, rfl, _, _, hr1, _⟩ := hown1.form
      have B1 := bt.hide (B0.out.trans (hbel1.mono B0s.out))
      have B1s := bt.hide (show w.heap.size ≤ w1.heap.size from B1.out.size)
      have R2b := bt.hide ((R2.out.below hbel1).more hbel1.size)
      have d1 := fun (W : World) (hW : Below w1.heap.size w1 W) => (hr1.below hW).conv (dst := 9) Try.underlying22 Try.underlying5 Try.underlying9 _ c1 rfl
      clear hown1 hbel1 hr1
      go_wp2_with fail
      refine hK.out _ _ B1.out (fun hHeld1b => ?_)
      clear hK K hHeld1
      refine mem.held_more (S' := fun W' => Below w1.heap.size w1 W') (fun W hW => B1.out.trans (hW.mono B1s.out)) _ _ _ _ ?_
      have hHeld2 : Below w1.heap.size w1 w1 := Below.refl _ _
      clear hHeld1b
      refine wpAnyH_take (i := 3) (v := ?_) rfl (by kernel_rfl) (by kernel_rfl) (by kernel_rfl) (fun _ _ _ h => h) (Or.inl ⟨by rfl, ?_⟩) (by assumption) ?_
      rotate_left
      · intro W hSW; (try dsimp only at hSW); go_simp; (try with_reducible rfl)
      simp only [Act.put, List.setIfInBounds_toArray, List.set_cons_zero, List.set_cons_succ, List.getElem_toArray, List.getElem_cons_zero, List.getElem_cons_succ]
      refine wpAnyH_ready (rs := [7]) (by kernel_rfl) (by simp) ?_
      refine AllReadyH.cons rfl (fun K hK => ?_) AllReadyH.nil
      go_simp
      refine (K2.out _ _ _ B1.out R2b.out).mono ?_
      rintro e w3 ⟨v3, rfl, hown3, hbel3⟩
      obtain ⟨A3, c3, rfl, _, _, hr3, _⟩ := hown3.form
      have B3 := bt.hide (B1.out.trans (hbel3.mono B1.out.size))
      have B3s := bt.hide (show w.heap.size ≤ w3.heap.size from B3.out.size)
      have hb3 : Below w1.heap.size w1 w3 := hbel3
      have d3 := fun (W : World) (hW : Below w3.heap.size w3 W) => (hr3.below hW).conv (dst := 9) Try.underlying22 Try.underlying5 Try.underlying9 _ c3 rfl
      clear hown3 hr3
      go_wp2_with fail
      refine hK.out _ _ hb3 (fun hHeld5 => ?_)
      clear hK K
      refine mem.held_more (S' := fun W' => Below w3.heap.size w3 W') (fun W hW => hHeld5.trans (hW.mono hHeld5.size)) _ _ _ _ ?_
      have hHeld6 : Below w3.heap.size w3 w3 := Below.refl _ _
      clear hHeld5 hb3
      refine wpAnyH_take (i := 8) (v := ?_) rfl (by kernel_rfl) (by kernel_rfl) (by kernel_rfl) (fun _ _ _ h => h) (Or.inl ⟨by rfl, ?_⟩) (by assumption) ?_
      rotate_left
      · intro W hSW; (try dsimp only at hSW); go_simp; (try with_reducible rfl)
      simp only [Act.put, List.setIfInBounds_toArray, List.set_cons_zero, List.set_cons_succ, List.getElem_toArray, List.getElem_cons_zero, List.getElem_cons_succ]
      refine wpAnyH_take (i := 9) (v := ?_) rfl (by kernel_rfl) (by kernel_rfl) (by kernel_rfl) (fun _ _ _ h => h) (Or.inl ⟨by rfl, ?_⟩) (by assumption) ?_
      rotate_left
      · intro W hSW; (try dsimp only at hSW); go_simp; (try with_reducible rfl)
      simp only [Act.put, List.setIfInBounds_toArray, List.set_cons_zero, List.set_cons_succ, List.getElem_toArray, List.getElem_cons_zero, List.getElem_cons_succ]
      refine wpAnyH_take (i := 10) (v := ?_) rfl (by kernel_rfl) (by kernel_rfl) (by kernel_rfl) (fun _ _ _ h => h) (Or.inl ⟨by rfl, ?_⟩) (by assumption) ?_
      rotate_left
      · intro W hSW; (try dsimp only at hSW); go_simp; (try with_reducible rfl)
      simp only [Act.put, List.setIfInBounds_toArray, List.set_cons_zero, List.set_cons_succ, List.getElem_toArray, List.getElem_cons_zero, List.getElem_cons_succ]
      refine wpAnyH_ready (rs := [11]) (by kernel_rfl) (by simp) ?_
      refine AllReadyH.cons rfl (fun K hK => ?_) AllReadyH.nil
      go_simp
      refine (co.works _).mono ?_
      rintro e w4 ⟨rfl, hb4⟩
      have B4 := bt.hide (B3.out.trans (hb4.mono B3s.out))
      have hb4' := hb4
      clear hb4
      go_wp2_with fail
      refine hK.out _ _ hb4' (fun hHeld7 => ?_)
      clear hK K
      refine wpAnyH_take (i := 12) (v := ?_) rfl (by kernel_rfl) (by kernel_rfl) (by kernel_rfl) (fun _ _ _ h => h) (Or.inl ⟨by rfl, ?_⟩) (by assumption) ?_
      rotate_left
      · intro W hSW; (try dsimp only at hSW); go_simp; (try with_reducible rfl)
      simp only [Act.put, List.setIfInBounds_toArray, List.set_cons_zero, List.set_cons_succ, List.getElem_toArray, List.getElem_cons_zero, List.getElem_cons_succ]
      refine wpAnyH_take (i := 13) (v := ?_) rfl (by kernel_rfl) (by kernel_rfl) (by kernel_rfl) (fun _ _ _ h => h) (Or.inl ⟨by rfl, ?_⟩) (by assumption) ?_
      rotate_left
      · intro W hSW; (try dsimp only at hSW); go_simp; (try with_reducible rfl)
      simp only [Act.put, List.setIfInBounds_toArray, List.set_cons_zero, List.set_cons_succ, List.getElem_toArray, List.getElem_cons_zero, List.getElem_cons_succ]
      refine wpAnyH_done (by kernel_rfl) ?_ _
      go_wp2
      go_ret
      exact ⟨rfl, B4.out⟩

end Go.Proofs.Ytinlekencdfafaa.fnExactAppendString
