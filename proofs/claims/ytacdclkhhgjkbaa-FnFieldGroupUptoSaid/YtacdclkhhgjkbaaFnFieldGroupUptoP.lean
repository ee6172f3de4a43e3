/-
  laws.FnFieldGroup returns true for every impl.Field and int: a group that is written as a field is parsed, and one that is cut is an error.
  Condition: the arguments together hold at most 1048576 values, each counted each time it is reached.
-/
import Derived.Test.YtacdclkhhgjkbaaRows
import Derived.WalkKit
import Derived.ProofKit
import Derived.OpenShut
import Derived.JoinedCond
import Derived.Below
import Derived.Test.YtacdclkhhgjkbaaFrm
import Derived.Test.YtacdclkhhgjkbaaFnFieldGroupUptoW
namespace Go.Proofs.Ytacdclkhhgjkbaa.fnFieldGroupUpto
open Go.ChangeShapes Go.WideShapes Go.ChangeAt Go.RowKit
set_option linter.unusedVariables false

set_option maxRecDepth 100000 in
theorem contract (H : Type) (enc : TypeId × Value → H) (W : World) (base : Nat) (args : Array Value) (ds gs : List (DataW H)) (before : List MemPlace)
    (hval0 : ∀ (j : Nat) t v, Try.f11.params[j]? = some t → args[j]? = some v → Value.okWide Try.prog W .any base t v)
    (hW : DataW.Whole enc Try.prog Try.f11.params.toList Rows.fnFieldGroupSpec.vars false W args.toList ds gs before) (hk : Rows.uptoSmall H (ds ++ gs) = true) :
    Calls Try.prog 11 args W fun e W' => ∃ v, e = .returned v ∧ Rows.fnFieldGroupSpec.post enc Try.prog Try.f11 false true false false W args v W' := by
  have hval : ∀ (j : Nat) t v, Try.f11.params[j]? = some t → args[j]? = some v → Value.okWide Try.prog W .any base t v := hval0
  have hW' := hW
  obtain ⟨p, q, hA0, hV, rfl, hfz, hnd⟩ := hW
  have hA : DataW.TrodAll enc Try.prog W 0 (fun _ => true) true Try.f11.params.toList args.toList ds p := hA0
  rw [Try.params11] at hA hval
  obtain ⟨v0, vs0, d0, ds0, p0, q0, hargs, rfl, rfl, h0, r0⟩ := trodAll_cons hA
  obtain ⟨v1, vs1, d1, ds1, p1, q1, rfl, rfl, rfl, h1, r1⟩ := trodAll_cons r0
  obtain ⟨rfl, rfl, rfl⟩ := trodAll_nil r1
  obtain rfl : args = #[v0, v1] := by cases args; simp_all
  obtain ⟨rfl, rfl⟩ := trodVars_none hV
  have hbulk := of_decide_eq_true hk
  simp only [List.append_nil, Rows.uptoBulkAll] at hbulk
  have k0 := h0
  have lt0 : ∀ x ∈ p0, x.block < W.heap.size := by obtain ⟨m, hm⟩ := k0; exact DataW.trod_lt m _ _ _ hm
  obtain ⟨a0, k0', z0, B0, n0, c0, A0, m0, e0, rfl, hl0⟩ := fr.open_field (hval 0 41 v0 rfl rfl) h0 (by omega)
  obtain ⟨a1, rfl, rfl, rfl, w1⟩ := open_int Try.underlying3 (hval 1 3 v1 rfl rfl) h1
  clear hA0 hval0
  refine (walk a0 k0' z0 B0 n0 c0 A0 m0 e0 d0 a1 W hl0 (bounds_i64 w1)).mono fun e W' ⟨he, bel⟩ => ?_
  subst he
  exact ⟨_, rfl, _, _, _, [], _, [], hW', trodAll_mk1 (shut_bool Try.underlying4 _), (trodAll_cons_mk (Below.trod fr.laidOut (by kernel_rfl) (of_decide_eq_true (by kernel_rfl)) k0 bel lt0) (trodAll_cons_mk (shut_int Try.underlying3 w1) trodAll_mk0)), rfl, bel.frame _, fun h => by cases h⟩

set_option maxRecDepth 100000 in
theorem lifted (os : Os) (started : os.Started) (H : Type) (enc : TypeId × Value → H) (F : Stop.Interp) :
    ReturnsInHanded {} Try.checked os 11 .any ((Rows.OpenSpec.upto Rows.fnFieldGroupSpec).pre6 enc Try.prog Try.f11 Rows.fnFieldGroupUptoRow.domain false) (((Rows.OpenSpec.upto Rows.fnFieldGroupSpec).at F).post enc Try.prog Try.f11 false true false false) := by
  refine returnsInHanded_of_cond (C := Try.checked) (s := Rows.OpenSpec.upto Rows.fnFieldGroupSpec) (k := Rows.uptoSmall) rfl fr.own started (by kernel_rfl) Try.func11
    (OpenSpec.witness (enc := enc) (C := Try.checked) (s := Rows.OpenSpec.upto Rows.fnFieldGroupSpec) (k := Rows.uptoSmall) rfl false ⟨#[], #[.agg #[.int .i32 0, .int .i8 0, .int .u64 0, .slice none 0 0, .slice none 0 0], .int .i64 0], []⟩ 8 (by kernel_rfl) (by kernel_rfl) (by kernel_rfl)
      (x := ([.agg [.lit (.int .i32 0), .lit (.int .i8 0), .lit (.int .u64 0), .nil, .nil], .lit (.int .i64 0)], [], [])) (by kernel_rfl) rfl (by kernel_rfl)) ?_
  intro W base args ds gs before hval hW _ hk _
  exact contract H enc W base args ds gs before hval hW hk

theorem over : Rows.fnFieldGroupUptoRow.holds Try.pinned (Rows.OpenSpec.upto Rows.fnFieldGroupSpec) :=
  OpenClaim.holds_of_cond 11 Try.f11 rfl rfl rfl rfl rfl rfl rfl ⟨rfl, rfl, rfl, rfl, rfl⟩ rfl rfl rfl rfl rfl (by kernel_rfl) Try.func11 (by kernel_rfl)
    (of_decide_eq_true (by kernel_rfl)) (by unfold Func.isWrapper; first | (rw [if_pos (by decide +kernel)]; kernel_rfl) | (rw [if_neg (by decide +kernel)]; exact ⟨rfl, rfl⟩))
    (fun os started H enc _ F => lifted os started H enc F)

theorem proved : Rows.FnFieldGroupUptoSaid := over
#print axioms proved
end Go.Proofs.Ytacdclkhhgjkbaa.fnFieldGroupUpto
