/-
  The walk of laws.FnExactAppendBytes returns true for every two []byte: bytes are appended behind how many they are. No condition.
-/
import Derived.Test.YtinlekencdfafaaRows
import Derived.WalkKit
import Derived.ProofKit
import Derived.OpenShut
import Derived.ShutString
import Derived.ChangeOld
import Derived.Below
import Derived.Test.YtinlekencdfafaaAppend3
import Derived.Test.YtinlekencdfafaaSpecW
import Derived.Test.YtinlekencdfafaaArg
namespace Go.Proofs.Ytinlekencdfafaa.fnExactAppendBytes
open Go.ChangeShapes Go.WideShapes Go.ChangeAt Go.RowKit
open Go.ChangeMaps (open_string shut_string)
set_option linter.unusedVariables false

def IsRow (k : IntKind) (w : World) (a : Option Addr) (len cap : Nat) (zs : List Int) : Prop :=
  (a = none ∧ len = 0 ∧ cap = 0 ∧ zs = []) ∨
  ∃ x, a = some x ∧ len ≤ cap ∧ cap ≤ maxLen ∧ zs.length = cap ∧ (∀ i, i < zs.length → w.cell? (x.add i) = some (.int k (zs.getD i 0))) ∧ ∀ n ∈ zs, (Lit.int k n).wf = true

theorem walk (a0 : Option Addr) (len0 cap0 : Nat) (z0 : List Int) (a1 : Option Addr) (len1 cap1 : Nat) (z1 : List Int) (w : World) (w0 : IsRow .u8 w a0 len0 cap0 z0) (w1 : IsRow .u8 w a1 len1 cap1 z1) :
    Calls Try.prog 12 #[.slice a0 len0 cap0, .slice a1 len1 cap1] w fun e w' => e = .returned (.bool true) ∧ Below w.heap.size w w' := by
  obtain ⟨bs, hlen, hcap, hmax, hrd⟩ := mem.rd_of_row w0
  obtain ⟨ds, hlen1, hcap1, hmax1, hrd1⟩ := mem.rd_of_row w1
  clear w0 w1
  by_cases hbig : 2147483647 < len0
  · have hb : decide ((2147483647 : Int) < (len0 : Int)) = true := by simp; omega
    have HR := bt.hide hrd
    have HR1 := bt.hide hrd1
    clear hrd hlen hrd1 hlen1
    go_enter Try.func12, Try.ntmps12
    go_wp2
    go_ret
    exact ⟨rfl, Below.refl _ _⟩
  have hb : decide ((2147483647 : Int) < (len0 : Int)) = false := by simp; omega
  by_cases hbig1 : 2147483647 < len1
  · have hb1 : decide ((2147483647 : Int) < (len1 : Int)) = true := by simp; omega
    have HR := bt.hide hrd
    have HR1 := bt.hide hrd1
    clear hrd hlen hrd1 hlen1
    go_enter Try.func12, Try.ntmps12
    go_wp2
    go_ret
    exact ⟨rfl, Below.refl _ _⟩
  have hb1 : decide ((2147483647 : Int) < (len1 : Int)) = false := by simp; omega
  · have hbs : bs.length ≤ 2147483647 := by omega
    have hel := pl.enc_len_le len1
    have K1 := bt.hide (fun (W : World) (hW : Below w.heap.size w W) => ap.iab a0 bs len0 cap0 a1 len1 cap1 ds W ((hrd.below hW).more hW.size) hlen.symm ((hrd1.below hW).more hW.size) hlen1.symm (by omega) (by omega))
    have K3 := bt.hide (fun (W : World) => sw.svar W.heap.size (len1 : Int) W (by omega) (by omega) (Nat.le_refl _))
    rw [Int.toNat_natCast] at K3
    have c0 := fun (W : World) (hW : Below w.heap.size w W) => (hrd.below hW).conv (dst := 9) Try.underlying22 Try.underlying5 Try.underlying9 len0 cap0 hlen.symm
    have c1 := fun (W : World) (hW : Below w.heap.size w W) => (hrd1.below hW).conv (dst := 9) Try.underlying22 Try.underlying5 Try.underlying9 len1 cap1 hlen1.symm
    have HE := bt.hide (mem.str_cat3 bs (pl.enc len1) ds)
    have hns : ¬ 9223372036854775807 < (mem.str bs).size + (mem.str (pl.enc len1)).size := by rw [mem.str_size, mem.str_size]; omega
    have hns2 : ¬ 9223372036854775807 < (mem.str bs).size + (mem.str (pl.enc len1)).size + (mem.str ds).size := by rw [mem.str_size, mem.str_size, mem.str_size]; omega
    have hwr : IntKind.u64.wrap (len1 : Int) = (len1 : Int) := bt.wrap_u64_id _ (by omega) (by omega)
    clear hrd hlen hbig hel hrd1 hlen1 hbig1
    go_enter Try.func12, Try.ntmps12
    go_wp2_with fail
    refine wp_region_held_drew (S := fun W' => Below w.heap.size w W') (by kernel_rfl) (Below.refl _ _).drew (fun hHeld => ?_)
    refine wpAnyH_take (i := 0) (v := ?_) rfl (by kernel_rfl) (by kernel_rfl) (by kernel_rfl) (fun _ _ _ h => h) (Or.inl ⟨by rfl, ?_⟩) (by assumption) ?_
    rotate_left
    · intro W hSW; (try dsimp only at hSW); go_simp; (try with_reducible rfl)
    simp only [Act.put, List.setIfInBounds_toArray, List.set_cons_zero, List.set_cons_succ, List.getElem_toArray, List.getElem_cons_zero]
    refine wpAnyH_take (i := 1) (v := ?_) rfl (by kernel_rfl) (by kernel_rfl) (by kernel_rfl) (fun _ _ _ h => h) (Or.inl ⟨by rfl, ?_⟩) (by assumption) ?_
    rotate_left
    · intro W hSW; (try dsimp only at hSW); go_simp; (try with_reducible rfl)
    simp only [Act.put, List.setIfInBounds_toArray, List.set_cons_zero, List.set_cons_succ, List.getElem_toArray, List.getElem_cons_zero, List.getElem_cons_succ]
    refine wpAnyH_take (i := 4) (v := ?_) rfl (by kernel_rfl) (by kernel_rfl) (by kernel_rfl) (fun _ _ _ h => h) (Or.inl ⟨by rfl, ?_⟩) (by assumption) ?_
    rotate_left
    · intro W hSW; (try dsimp only at hSW); go_simp; (try with_reducible rfl)
    simp only [Act.put, List.setIfInBounds_toArray, List.set_cons_zero, List.set_cons_succ, List.getElem_toArray, List.getElem_cons_zero, List.getElem_cons_succ]
    refine wpAnyH_take (i := 5) (v := ?_) rfl (by kernel_rfl) (by kernel_rfl) (by kernel_rfl) (fun _ _ _ h => h) (Or.inl ⟨by rfl, ?_⟩) (by assumption) ?_
    rotate_left
    · intro W hSW; (try dsimp only at hSW); go_simp; (try with_reducible rfl)
    simp only [Act.put, List.setIfInBounds_toArray, List.set_cons_zero, List.set_cons_succ, List.getElem_toArray, List.getElem_cons_zero, List.getElem_cons_succ]
    refine wpAnyH_take (i := 6) (v := ?_) rfl (by kernel_rfl) (by kernel_rfl) (by kernel_rfl) (fun _ _ _ h => h) (Or.inl ⟨by rfl, ?_⟩) (by assumption) ?_
    rotate_left
    · intro W hSW; (try dsimp only at hSW); go_simp; (try with_reducible rfl)
    simp only [Act.put, List.setIfInBounds_toArray, List.set_cons_zero, List.set_cons_succ, List.getElem_toArray, List.getElem_cons_zero, List.getElem_cons_succ]
    refine wpAnyH_take (i := 7) (v := ?_) rfl (by kernel_rfl) (by kernel_rfl) (by kernel_rfl) (fun _ _ _ h => h) (Or.inl ⟨by rfl, ?_⟩) (by assumption) ?_
    rotate_left
    · intro W hSW; (try dsimp only at hSW); go_simp; (try with_reducible rfl)
    simp only [Act.put, List.setIfInBounds_toArray, List.set_cons_zero, List.set_cons_succ, List.getElem_toArray, List.getElem_cons_zero, List.getElem_cons_succ]
    refine wpAnyH_take (i := 8) (v := ?_) rfl (by kernel_rfl) (by kernel_rfl) (by kernel_rfl) (fun _ _ _ h => h) (Or.inl ⟨by rfl, ?_⟩) (by assumption) ?_
    rotate_left
    · intro W hSW; (try dsimp only at hSW); go_simp; (try with_reducible rfl)
    simp only [Act.put, List.setIfInBounds_toArray, List.set_cons_zero, List.set_cons_succ, List.getElem_toArray, List.getElem_cons_zero, List.getElem_cons_succ]
    refine wpAnyH_take (i := 12) (v := ?_) rfl (by kernel_rfl) (by kernel_rfl) (by kernel_rfl) (fun _ _ _ h => h) (Or.inl ⟨by rfl, ?_⟩) (by assumption) ?_
    rotate_left
    · intro W hSW; (try dsimp only at hSW); go_simp; (try with_reducible rfl)
    simp only [Act.put, List.setIfInBounds_toArray, List.set_cons_zero, List.set_cons_succ, List.getElem_toArray, List.getElem_cons_zero, List.getElem_cons_succ]
    refine wpAnyH_take (i := 13) (v := ?_) rfl (by kernel_rfl) (by kernel_rfl) (by kernel_rfl) (fun _ _ _ h => h) (Or.inl ⟨by rfl, ?_⟩) (by assumption) ?_
    rotate_left
    · intro W hSW; (try dsimp only at hSW); go_simp; (try with_reducible rfl)
    simp only [Act.put, List.setIfInBounds_toArray, List.set_cons_zero, List.set_cons_succ, List.getElem_toArray, List.getElem_cons_zero, List.getElem_cons_succ]
    refine wpAnyH_ready (rs := [2]) (by kernel_rfl) (by simp) ?_
    refine AllReadyH.cons rfl (fun K hK => ?_) AllReadyH.nil
    go_simp
    refine (K1.out _ (by assumption)).mono ?_
    rintro e w1 ⟨v1, rfl, hown1, hbel1⟩
    obtain ⟨A1, c1, rfl, _, _, hr1, _⟩ := hown1.form
    have B1 := bt.hide ((Below.refl _ _).drew.trans hbel1)
    have B1s := bt.hide (show w.heap.size ≤ w1.heap.size from hbel1.size)
    have d1 := fun (W : World) (hW : Below w1.heap.size w1 W) => (hr1.below hW).conv (dst := 9) Try.underlying22 Try.underlying5 Try.underlying9 _ c1 rfl
    simp only [List.length_append] at d1
    clear hown1 hbel1 hr1
    go_wp2_with fail
    refine hK.out _ _ B1.out (fun hHeld1 => ?_)
    clear hK K hHeld
    refine mem.held_more (S' := fun W' => Below w1.heap.size w1 W') (fun W hW => B1.out.trans (hW.mono B1s.out)) _ _ _ _ ?_
    have hHeld2 : Below w1.heap.size w1 w1 := Below.refl _ _
    clear hHeld1
    refine wpAnyH_take (i := 3) (v := ?_) rfl (by kernel_rfl) (by kernel_rfl) (by kernel_rfl) (fun _ _ _ h => h) (Or.inl ⟨by rfl, ?_⟩) (by assumption) ?_
    rotate_left
    · intro W hSW; (try dsimp only at hSW); go_simp; (try with_reducible rfl)
    simp only [Act.put, List.setIfInBounds_toArray, List.set_cons_zero, List.set_cons_succ, List.getElem_toArray, List.getElem_cons_zero, List.getElem_cons_succ]
    refine wpAnyH_ready (rs := [9]) (by kernel_rfl) (by simp) ?_
    refine AllReadyH.cons rfl (fun K hK => ?_) AllReadyH.nil
    go_simp
    refine (K3.out _).mono ?_
    rintro e w2 ⟨v2, rfl, hown2, hbel2⟩
    obtain ⟨A2, c2, rfl, _, _, hr2, _⟩ := hown2.form
    have B2 := bt.hide (B1.out.trans (hbel2.mono B1s.out))
    have d2 := fun (W : World) (hW : Below w2.heap.size w2 W) => (hr2.below hW).conv (dst := 9) Try.underlying22 Try.underlying5 Try.underlying9 _ c2 rfl
    clear hown2 hr2
    go_wp2_with fail
    refine hK.out _ _ hbel2 (fun hHeld3 => ?_)
    clear hK K hHeld2
    refine mem.held_more (S' := fun W' => Below w2.heap.size w2 W') (fun W hW => hHeld3.trans (hW.mono hHeld3.size)) _ _ _ _ ?_
    have hHeld4 : Below w2.heap.size w2 w2 := Below.refl _ _
    clear hHeld3 hbel2
    refine wpAnyH_take (i := 10) (v := ?_) rfl (by kernel_rfl) (by kernel_rfl) (by kernel_rfl) (fun _ _ _ h => h) (Or.inl ⟨by rfl, ?_⟩) (by assumption) ?_
    rotate_left
    · intro W hSW; (try dsimp only at hSW); go_simp; (try with_reducible rfl)
    simp only [Act.put, List.setIfInBounds_toArray, List.set_cons_zero, List.set_cons_succ, List.getElem_toArray, List.getElem_cons_zero, List.getElem_cons_succ]
    refine wpAnyH_take (i := 11) (v := ?_) rfl (by kernel_rfl) (by kernel_rfl) (by kernel_rfl) (fun _ _ _ h => h) (Or.inl ⟨by rfl, ?_⟩) (by assumption) ?_
    rotate_left
    · intro W hSW; (try dsimp only at hSW); go_simp; (try with_reducible rfl)
    simp only [Act.put, List.setIfInBounds_toArray, List.set_cons_zero, List.set_cons_succ, List.getElem_toArray, List.getElem_cons_zero, List.getElem_cons_succ]
    refine wpAnyH_take (i := 14) (v := ?_) rfl (by kernel_rfl) (by kernel_rfl) (by kernel_rfl) (fun _ _ _ h => h) (Or.inl ⟨by rfl, ?_⟩) (by assumption) ?_
    rotate_left
    · intro W hSW; (try dsimp only at hSW); go_simp; (try with_reducible rfl)
    simp only [Act.put, List.setIfInBounds_toArray, List.set_cons_zero, List.set_cons_succ, List.getElem_toArray, List.getElem_cons_zero, List.getElem_cons_succ]
    refine wpAnyH_take (i := 15) (v := ?_) rfl (by kernel_rfl) (by kernel_rfl) (by kernel_rfl) (fun _ _ _ h => h) (Or.inl ⟨by rfl, ?_⟩) (by assumption) ?_
    rotate_left
    · intro W hSW; (try dsimp only at hSW); go_simp; (try with_reducible rfl)
    simp only [Act.put, List.setIfInBounds_toArray, List.set_cons_zero, List.set_cons_succ, List.getElem_toArray, List.getElem_cons_zero, List.getElem_cons_succ]
    refine wpAnyH_take (i := 16) (v := ?_) rfl (by kernel_rfl) (by kernel_rfl) (by kernel_rfl) (fun _ _ _ h => h) (Or.inl ⟨by rfl, ?_⟩) (by assumption) ?_
    rotate_left
    · intro W hSW; (try dsimp only at hSW); go_simp; (try with_reducible rfl)
    simp only [Act.put, List.setIfInBounds_toArray, List.set_cons_zero, List.set_cons_succ, List.getElem_toArray, List.getElem_cons_zero, List.getElem_cons_succ]
    refine wpAnyH_done (by kernel_rfl) ?_ _
    rw [HE.out]
    go_wp2
    go_ret
    exact ⟨rfl, B2.out⟩

end Go.Proofs.Ytinlekencdfafaa.fnExactAppendBytes
