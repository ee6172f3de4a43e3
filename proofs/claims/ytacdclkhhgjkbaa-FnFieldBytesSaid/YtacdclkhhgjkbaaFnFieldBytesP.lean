/-
  laws.FnFieldBytes returns true for every field and every int: a field of this type is parsed whole, and never where it is cut. No condition.
-/
import Derived.Test.YtacdclkhhgjkbaaRows
import Derived.WalkKit
import Derived.ProofKit
import Derived.OpenShut
import Derived.ShutString
import Derived.ChangeOld
import Derived.Below
import Derived.Deep.Slices
import Derived.Deep.Fields
import Derived.ChangeSame
import Derived.Lib.SmallJoins
import Derived.Test.YtacdclkhhgjkbaaFnFieldBytesW
import Derived.Test.YtacdclkhhgjkbaaArg
namespace Go.Proofs.Ytacdclkhhgjkbaa.fnFieldBytes
open Go.ChangeShapes Go.WideShapes Go.ChangeAt Go.RowKit Go.Deep Go.Joins
open Go.ChangeMaps (open_string shut_string)
set_option linter.unusedVariables false

theorem own : ownKnob Try.prog.godebug = none := by kernel_rfl
theorem laidOut : laidOutB Try.prog = true := by kernel_rfl

/-- A field, opened. -/
theorem open_field {H : Type} {enc : TypeId × Value → H} {W : World} {base : Nat} {v : Value} {d : DataW H} {p : List MemPlace} (hv : Value.okWide Try.prog W .any base 41 v)
    (h : DataW.Trod enc Try.prog W 0 (fun _ => true) true 41 v d p) :
    ∃ (a k z : Int) (A3 : Option Addr) (n3 c3 : Nat) (A4 : Option Addr) (n4 c4 : Nat), v = .agg #[.int .i32 a, .int .i8 k, .int .u64 z, .slice A3 n3 c3, .slice A4 n4 c4] ∧ (Lit.int .u64 z).wf = true ∧ ∃ data : List Nat, mem.Rd W W.heap.size A3 data ∧ data.length = n3 := by
  obtain ⟨cs, rfl, hsz⟩ := okWide_struct Try.underlying41 hv
  have hC : Try.prog.cellsOf 41 = 5 := by kernel_rfl
  obtain ⟨l⟩ := cs
  have hlen : l.length = 5 := by simpa using hsz.trans hC
  obtain ⟨fuel, hf⟩ := h
  obtain ⟨xs, n, _, hx, _, hl, hg⟩ := DataW.trod_struct Try.underlying41 hf
  obtain ⟨x0, x1, x2, x3, x4, rfl⟩ : ∃ x0 x1 x2 x3 x4, l = [x0, x1, x2, x3, x4] := by
    match l, hlen with
    | [x0, x1, x2, x3, x4], _ => exact ⟨x0, x1, x2, x3, x4, rfl⟩
  obtain ⟨y0, y1, y2, y3, y4, rfl⟩ : ∃ y0 y1 y2 y3 y4, xs = [y0, y1, y2, y3, y4] := by
    match xs, hl with
    | [y0, y1, y2, y3, y4], _ => exact ⟨y0, y1, y2, y3, y4, rfl⟩
  have c0 : Try.prog.cellsOf 21 = 1 := by kernel_rfl
  have c1 : Try.prog.cellsOf 38 = 1 := by kernel_rfl
  have c2 : Try.prog.cellsOf 36 = 1 := by kernel_rfl
  have c3 : Try.prog.cellsOf 25 = 1 := by kernel_rfl
  have c4 : Try.prog.cellsOf 22 = 1 := by kernel_rfl
  have q0 : DataW.trod enc Try.prog W 0 (fun _ => true) true n 21 [x0] = some y0 := by simpa [Value.cells, c0] using hg 0 _ rfl
  have q1 : DataW.trod enc Try.prog W 0 (fun _ => true) true n 38 [x1] = some y1 := by simpa [Value.cells, c1] using hg 1 _ rfl
  have q2 : DataW.trod enc Try.prog W 0 (fun _ => true) true n 36 [x2] = some y2 := by simpa [Value.cells, c2] using hg 2 _ rfl
  have q3 : DataW.trod enc Try.prog W 0 (fun _ => true) true n 25 [x3] = some y3 := by simpa [Value.cells, c3] using hg 3 _ rfl
  have q4 : DataW.trod enc Try.prog W 0 (fun _ => true) true n 22 [x4] = some y4 := by simpa [Value.cells, c4] using hg 4 _ rfl
  obtain ⟨a, e0, _, _⟩ := DataW.trod_int Try.underlying21 q0
  obtain ⟨k, e1, _, _⟩ := DataW.trod_int Try.underlying38 q1
  obtain ⟨z, e2, _, hz⟩ := DataW.trod_int Try.underlying36 q2
  have s3 : ∃ (A : Option Addr) (m c : Nat), x3 = .slice A m c ∧ ∃ data : List Nat, mem.Rd W W.heap.size A data ∧ data.length = m := by
    rcases open_ints Try.underlying25 Try.underlying5 (by kernel_rfl) q3 with ⟨h, _⟩ | ⟨x, l, c, zs, h, _, hl, hm, hz, _, hcell, hwz⟩
    · exact ⟨none, 0, 0, by simpa using h, [], mem.Rd.nil_ _ _ _, rfl⟩
    · obtain ⟨bs, hb, _, _, hr⟩ := mem.rd_of_row (w := W) (a := some x) (len := l) (cap := c) (zs := zs) (.inr ⟨x, rfl, hl, hm, by simpa using hz, hcell, hwz⟩)
      exact ⟨some x, l, c, by simpa using h, bs, hr, hb⟩
  have s4 : ∃ (A : Option Addr) (m c : Nat), x4 = .slice A m c := by
    rcases open_slice Try.underlying22 q4 with ⟨h, _⟩ | ⟨b, len, cap, _, _, _, _, h, _⟩
    · exact ⟨none, 0, 0, by simpa using h⟩
    · exact ⟨some b, len, cap, by simpa using h⟩
  obtain ⟨A3, n3, k3, rfl, hdata⟩ := s3
  obtain ⟨A4, n4, k4, rfl⟩ := s4
  simp only [List.cons.injEq, and_true] at e0 e1 e2
  subst e0 e1 e2
  exact ⟨a, k, z, A3, n3, k3, A4, n4, k4, rfl, hz, hdata⟩

set_option maxRecDepth 100000 in
theorem lifted (os : Os) (started : os.Started) (H : Type) (enc : TypeId × Value → H) :
    ReturnsInHanded {} Try.checked os 8 .any (Rows.fnFieldBytesSpec.pre6 enc Try.prog Try.f8 Rows.fnFieldBytesRow.domain false) (Rows.fnFieldBytesSpec.post enc Try.prog Try.f8 false true false false) := by
  refine returnsInHanded_of_change (C := Try.checked) own started (by kernel_rfl) Try.func8
    (ChangeSpec.witness6 (enc := enc) (C := Try.checked) false ⟨#[], #[.agg #[.int .i32 0, .int .i8 0, .int .u64 0, .slice none 0 0, .slice none 0 0], .int .i64 0], []⟩ 8 (by kernel_rfl) (by kernel_rfl) (by kernel_rfl) (by kernel_rfl)) ?_
  intro W base args ds gs before hval0 hW hcnd _
  have hval : ∀ (j : Nat) t v, Try.f8.params[j]? = some t → args[j]? = some v → Value.okWide Try.prog W .any base t v := hval0
  have hW' := hW
  obtain ⟨p, q, hA0, hV, rfl, hfz, hnd⟩ := hW
  have hA : DataW.TrodAll enc Try.prog W 0 (fun _ => true) true Try.f8.params.toList args.toList ds p := hA0
  rw [Try.params8] at hA hval
  obtain ⟨v0, vs0, d0, ds0, p0, q0, hargs, rfl, rfl, h0, r0⟩ := trodAll_cons hA
  obtain ⟨v1, vs1, d1, ds1, p1, q1, rfl, rfl, rfl, h1, r1⟩ := trodAll_cons r0
  obtain ⟨rfl, rfl, rfl⟩ := trodAll_nil r1
  obtain rfl : args = #[v0, v1] := by cases args; simp_all
  obtain ⟨rfl, rfl⟩ := trodVars_none hV
  have k0 := h0
  have lt0 : ∀ x ∈ p0, x.block < W.heap.size := by obtain ⟨m, hm⟩ := k0; exact DataW.trod_lt m _ _ _ hm
  obtain ⟨a, k, z, A3, n3, c3, A4, n4, c4, rfl, hz, data, hr, hn⟩ := open_field (hval 0 41 v0 rfl rfl) h0
  obtain ⟨a1, rfl, rfl, rfl, w1⟩ := open_int Try.underlying3 (hval 1 3 v1 rfl rfl) h1
  clear hA0 hval0
  obtain ⟨hz0, hz1⟩ := bounds_u64 hz
  obtain ⟨hm0, hm1⟩ := bounds_i64 w1
  refine (walk a k z a1 A3 n3 c3 A4 n4 c4 W data hr hn hz0 (by omega) (by omega) (by omega)).mono fun e W' ⟨he, bel⟩ => ?_
  subst he
  exact ⟨_, rfl, _, _, _, [], _, [], hW', trodAll_mk1 (shut_bool Try.underlying4 _), (trodAll_cons_mk (Below.trod laidOut (by kernel_rfl) (of_decide_eq_true (by kernel_rfl)) k0 bel lt0) (trodAll_cons_mk (shut_int Try.underlying3 w1) trodAll_mk0)), rfl, bel.frame _, fun h => by cases h⟩

theorem over : Rows.fnFieldBytesRow.holds Try.pinned (OpenSpec.ofChange Rows.fnFieldBytesSpec) :=
  OpenClaim.holds_of_wide 8 Try.f8 rfl rfl rfl rfl rfl rfl rfl ⟨rfl, rfl, rfl, rfl, rfl⟩ rfl rfl rfl rfl rfl (by kernel_rfl) Try.func8 (by kernel_rfl)
    (of_decide_eq_true (by kernel_rfl)) (by unfold Func.isWrapper; first | (rw [if_pos (by decide +kernel)]; kernel_rfl) | (rw [if_neg (by decide +kernel)]; exact ⟨rfl, rfl⟩))
    (fun os started H enc _ => lifted os started H enc)

theorem proved : Rows.FnFieldBytesSaid := over
#print axioms proved
end Go.Proofs.Ytacdclkhhgjkbaa.fnFieldBytes
