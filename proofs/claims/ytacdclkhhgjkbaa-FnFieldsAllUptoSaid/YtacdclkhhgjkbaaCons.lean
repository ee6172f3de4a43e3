/-
  Contracts of ConsumeVarint: a number is read as 'pl.rv 10' reads it; where there is none the length is negative.
-/
import Derived.Test.YtacdclkhhgjkbaaPure
import Derived.Test.YtacdclkhhgjkbaaMem
import Derived.Test.YtacdclkhhgjkbaaPlainG
import Derived.WalkKit
import Derived.ProofKit
namespace Go.Proofs.Ytacdclkhhgjkbaa.co
open Go.RowKit
set_option linter.unusedVariables false

theorem ret2 {k l : IntKind} {a b c d : Int} (h1 : a = c) (h2 : b = d) : Ending.returned (.tuple #[.int k a, .int l b]) = .returned (.tuple #[.int k c, .int l d]) := by rw [h1, h2]

/-- What ConsumeVarint answers: the number and how many bytes; or 0 and a negative length. -/
def CV (bs : List Nat) (w : World) (e : Ending) (w' : World) : Prop :=
  ∃ v n : Int, e = .returned (.tuple #[.int .u64 v, .int .i64 n]) ∧ w = w' ∧ (match pl.rv 10 bs with | some x => v = x.1 ∧ n = x.2 | none => v = 0 ∧ n < 0 ∧ -10 ≤ n)

theorem CV.some_ {bs : List Nat} {w w' : World} {v n : Int} {x : Nat × Nat} (h : pl.rv 10 bs = some x) (h1 : v = x.1) (h2 : n = x.2) (hw : w = w') : CV bs w (.returned (.tuple #[.int .u64 v, .int .i64 n])) w' :=
  ⟨v, n, rfl, hw, by rw [h]; exact ⟨h1, h2⟩⟩
theorem CV.none_ {bs : List Nat} {w w' : World} {v n : Int} (h : pl.rv 10 bs = none) (h1 : v = 0) (h2 : n < 0 ∧ -10 ≤ n) (hw : w = w') : CV bs w (.returned (.tuple #[.int .u64 v, .int .i64 n])) w' :=
  ⟨v, n, rfl, hw, by rw [h]; exact ⟨h1, h2⟩⟩

theorem list_split (bs : List Nat) (h : 0 < bs.length) : bs = bs.getD 0 0 :: bs.drop 1 := by
  cases bs with
  | nil => simp at h
  | cons b l => simp

/-- Reading, byte by byte: at place k. -/
theorem rv_at (k m : Nat) (bs : List Nat) (h : k < bs.length) : pl.rv (m + 1) (bs.drop k) =
    if bs.getD k 0 < 128 then (if m = 0 ∧ 1 < bs.getD k 0 then none else some (bs.getD k 0, 1))
    else match pl.rv m (bs.drop (k + 1)) with
      | none => none
      | some (v, n) => some (bs.getD k 0 - 128 + 128 * v, n + 1) := by
  have e : bs.drop k = bs.getD k 0 :: bs.drop (k + 1) := by
    rw [List.drop_eq_getElem_cons h, List.getD_eq_getElem?_getD, List.getElem?_eq_getElem h]
    rfl
  rw [e, pl.rv]
  rfl
theorem rv_out (k m : Nat) (bs : List Nat) (h : bs.length ≤ k) : pl.rv (m + 1) (bs.drop k) = none := by
  rw [List.drop_eq_nil_of_le h]
  rfl

/-- One byte that goes on. -/
theorem step_on (k m : Nat) (bs : List Nat) (h : k < bs.length) (hb : 128 ≤ bs.getD k 0) : pl.rv (m + 1) (bs.drop k) = (pl.rv m (bs.drop (k + 1))).map fun x => (bs.getD k 0 - 128 + 128 * x.1, x.2 + 1) := by
  rw [rv_at k m bs h, if_neg (by omega)]
  cases pl.rv m (bs.drop (k + 1)) with
  | none => rfl
  | some x => rfl
theorem step_end (k m : Nat) (bs : List Nat) (h : k < bs.length) (hb : bs.getD k 0 < 128) (hm : m = 0 → bs.getD k 0 ≤ 1) : pl.rv (m + 1) (bs.drop k) = some (bs.getD k 0, 1) := by
  rw [rv_at k m bs h, if_pos hb, if_neg (by omega)]
theorem step_bad (k : Nat) (bs : List Nat) (h : k < bs.length) (hb : 2 ≤ bs.getD k 0) : pl.rv 1 (bs.drop k) = none := by
  rw [rv_at k 0 bs h]
  by_cases h1 : bs.getD k 0 < 128
  · rw [if_pos h1, if_pos (by omega)]
  · rw [if_neg h1]
    rfl
theorem map_none {α β : Type} {o : Option α} (f : α → β) (h : o = none) : o.map f = none := by rw [h]; rfl
theorem map_some {α β : Type} {o : Option α} {x : α} (f : α → β) (h : o = some x) : o.map f = some (f x) := by rw [h]; rfl

theorem cell_bv {w : World} {a : Addr} {n : Nat} (h : w.cell? a = some (mem.bv n)) : w.cell? a = some (.int .u8 (n : Int)) := h

set_option maxRecDepth 100000 in
set_option maxHeartbeats 4000000 in
theorem wcv_pos (b off n c : Nat) (bs : List Nat) (x0 x1 x2 x3 x4 x5 x6 x7 x8 x9 : Nat) (w : World) (hn : 0 < n) (hm : n ≤ 9223372036854775807)
    (b0 : x0 < 256) (b1 : x1 < 256) (b2 : x2 < 256) (b3 : x3 < 256) (b4 : x4 < 256) (b5 : x5 < 256) (b6 : x6 < 256) (b7 : x7 < 256) (b8 : x8 < 256) (b9 : x9 < 256)
    (e0 : Hid (bs.length = n)) (e1 : Hid (x0 = bs.getD 0 0 ∧ x1 = bs.getD 1 0 ∧ x2 = bs.getD 2 0 ∧ x3 = bs.getD 3 0 ∧ x4 = bs.getD 4 0 ∧ x5 = bs.getD 5 0 ∧ x6 = bs.getD 6 0 ∧ x7 = bs.getD 7 0 ∧ x8 = bs.getD 8 0 ∧ x9 = bs.getD 9 0))
    (c0 : (0 : Int) < (n : Int) → w.cell? ⟨b, off, none⟩ = some (.int .u8 x0)) (c1 : (1 : Int) < (n : Int) → w.cell? ⟨b, off + 1, none⟩ = some (.int .u8 x1)) (c2 : (2 : Int) < (n : Int) → w.cell? ⟨b, off + 2, none⟩ = some (.int .u8 x2)) (c3 : (3 : Int) < (n : Int) → w.cell? ⟨b, off + 3, none⟩ = some (.int .u8 x3))
    (c4 : (4 : Int) < (n : Int) → w.cell? ⟨b, off + 4, none⟩ = some (.int .u8 x4)) (c5 : (5 : Int) < (n : Int) → w.cell? ⟨b, off + 5, none⟩ = some (.int .u8 x5)) (c6 : (6 : Int) < (n : Int) → w.cell? ⟨b, off + 6, none⟩ = some (.int .u8 x6)) (c7 : (7 : Int) < (n : Int) → w.cell? ⟨b, off + 7, none⟩ = some (.int .u8 x7))
    (c8 : (8 : Int) < (n : Int) → w.cell? ⟨b, off + 8, none⟩ = some (.int .u8 x8)) (c9 : (9 : Int) < (n : Int) → w.cell? ⟨b, off + 9, none⟩ = some (.int .u8 x9)) :
    Calls Try.prog 36 #[.slice (some ⟨b, off, none⟩) n c] w (CV bs w) := by
  go_enter Try.func36, Try.ntmps36
  go_wp2
  all_goals (clear c0 c1 c2 c3 c4 c5 c6 c7 c8 c9)
  all_goals (obtain ⟨g0, g1, g2, g3, g4, g5, g6, g7, g8, g9⟩ := e1.out; have hlen := e0.out)
  · go_ret2
    have hk : pl.rv 10 bs = some _ := step_end 0 9 bs (by omega) (by omega) (by omega)
    refine CV.some_ hk ?_ ?_ rfl
    all_goals (dsimp only; first | omega | (simp only [IntKind.wrap_u64]; omega))
  · go_ret2
    refine CV.none_ ?_ rfl (by decide) rfl
    show pl.rv 10 (bs.drop 0) = none
    rw [step_on 0 9 bs (by omega) (by omega)]
    refine map_none _ ?_
    exact rv_out 1 8 bs (by omega)
  · go_ret2
    have hk : pl.rv 10 bs = some _ := (step_on 0 9 bs (by omega) (by omega)).trans (map_some _ (step_end 1 8 bs (by omega) (by omega) (by omega)))
    refine CV.some_ hk ?_ ?_ rfl
    all_goals (dsimp only; first | omega | (simp only [IntKind.wrap_u64]; omega))
  · go_ret2
    refine CV.none_ ?_ rfl (by decide) rfl
    show pl.rv 10 (bs.drop 0) = none
    rw [step_on 0 9 bs (by omega) (by omega)]
    refine map_none _ ?_
    rw [step_on 1 8 bs (by omega) (by omega)]
    refine map_none _ ?_
    exact rv_out 2 7 bs (by omega)
  · go_ret2
    have hk : pl.rv 10 bs = some _ := (step_on 0 9 bs (by omega) (by omega)).trans (map_some _ ((step_on 1 8 bs (by omega) (by omega)).trans (map_some _ (step_end 2 7 bs (by omega) (by omega) (by omega)))))
    refine CV.some_ hk ?_ ?_ rfl
    all_goals (dsimp only; first | omega | (simp only [IntKind.wrap_u64]; omega))
  · go_ret2
    refine CV.none_ ?_ rfl (by decide) rfl
    show pl.rv 10 (bs.drop 0) = none
    rw [step_on 0 9 bs (by omega) (by omega)]
    refine map_none _ ?_
    rw [step_on 1 8 bs (by omega) (by omega)]
    refine map_none _ ?_
    rw [step_on 2 7 bs (by omega) (by omega)]
    refine map_none _ ?_
    exact rv_out 3 6 bs (by omega)
  · go_ret2
    have hk : pl.rv 10 bs = some _ := (step_on 0 9 bs (by omega) (by omega)).trans (map_some _ ((step_on 1 8 bs (by omega) (by omega)).trans (map_some _ ((step_on 2 7 bs (by omega) (by omega)).trans (map_some _ (step_end 3 6 bs (by omega) (by omega) (by omega)))))))
    refine CV.some_ hk ?_ ?_ rfl
    all_goals (dsimp only; first | omega | (simp only [IntKind.wrap_u64]; omega))
  · go_ret2
    refine CV.none_ ?_ rfl (by decide) rfl
    show pl.rv 10 (bs.drop 0) = none
    rw [step_on 0 9 bs (by omega) (by omega)]
    refine map_none _ ?_
    rw [step_on 1 8 bs (by omega) (by omega)]
    refine map_none _ ?_
    rw [step_on 2 7 bs (by omega) (by omega)]
    refine map_none _ ?_
    rw [step_on 3 6 bs (by omega) (by omega)]
    refine map_none _ ?_
    exact rv_out 4 5 bs (by omega)
  · go_ret2
    have hk : pl.rv 10 bs = some _ := (step_on 0 9 bs (by omega) (by omega)).trans (map_some _ ((step_on 1 8 bs (by omega) (by omega)).trans (map_some _ ((step_on 2 7 bs (by omega) (by omega)).trans (map_some _ ((step_on 3 6 bs (by omega) (by omega)).trans (map_some _ (step_end 4 5 bs (by omega) (by omega) (by omega)))))))))
    refine CV.some_ hk ?_ ?_ rfl
    all_goals (dsimp only; first | omega | (simp only [IntKind.wrap_u64]; omega))
  · go_ret2
    refine CV.none_ ?_ rfl (by decide) rfl
    show pl.rv 10 (bs.drop 0) = none
    rw [step_on 0 9 bs (by omega) (by omega)]
    refine map_none _ ?_
    rw [step_on 1 8 bs (by omega) (by omega)]
    refine map_none _ ?_
    rw [step_on 2 7 bs (by omega) (by omega)]
    refine map_none _ ?_
    rw [step_on 3 6 bs (by omega) (by omega)]
    refine map_none _ ?_
    rw [step_on 4 5 bs (by omega) (by omega)]
    refine map_none _ ?_
    exact rv_out 5 4 bs (by omega)
  · go_ret2
    have hk : pl.rv 10 bs = some _ := (step_on 0 9 bs (by omega) (by omega)).trans (map_some _ ((step_on 1 8 bs (by omega) (by omega)).trans (map_some _ ((step_on 2 7 bs (by omega) (by omega)).trans (map_some _ ((step_on 3 6 bs (by omega) (by omega)).trans (map_some _ ((step_on 4 5 bs (by omega) (by omega)).trans (map_some _ (step_end 5 4 bs (by omega) (by omega) (by omega)))))))))))
    refine CV.some_ hk ?_ ?_ rfl
    all_goals (dsimp only; first | omega | (simp only [IntKind.wrap_u64]; omega))
  · go_ret2
    refine CV.none_ ?_ rfl (by decide) rfl
    show pl.rv 10 (bs.drop 0) = none
    rw [step_on 0 9 bs (by omega) (by omega)]
    refine map_none _ ?_
    rw [step_on 1 8 bs (by omega) (by omega)]
    refine map_none _ ?_
    rw [step_on 2 7 bs (by omega) (by omega)]
    refine map_none _ ?_
    rw [step_on 3 6 bs (by omega) (by omega)]
    refine map_none _ ?_
    rw [step_on 4 5 bs (by omega) (by omega)]
    refine map_none _ ?_
    rw [step_on 5 4 bs (by omega) (by omega)]
    refine map_none _ ?_
    exact rv_out 6 3 bs (by omega)
  · go_ret2
    have hk : pl.rv 10 bs = some _ := (step_on 0 9 bs (by omega) (by omega)).trans (map_some _ ((step_on 1 8 bs (by omega) (by omega)).trans (map_some _ ((step_on 2 7 bs (by omega) (by omega)).trans (map_some _ ((step_on 3 6 bs (by omega) (by omega)).trans (map_some _ ((step_on 4 5 bs (by omega) (by omega)).trans (map_some _ ((step_on 5 4 bs (by omega) (by omega)).trans (map_some _ (step_end 6 3 bs (by omega) (by omega) (by omega)))))))))))))
    refine CV.some_ hk ?_ ?_ rfl
    all_goals (dsimp only; first | omega | (simp only [IntKind.wrap_u64]; omega))
  · go_ret2
    refine CV.none_ ?_ rfl (by decide) rfl
    show pl.rv 10 (bs.drop 0) = none
    rw [step_on 0 9 bs (by omega) (by omega)]
    refine map_none _ ?_
    rw [step_on 1 8 bs (by omega) (by omega)]
    refine map_none _ ?_
    rw [step_on 2 7 bs (by omega) (by omega)]
    refine map_none _ ?_
    rw [step_on 3 6 bs (by omega) (by omega)]
    refine map_none _ ?_
    rw [step_on 4 5 bs (by omega) (by omega)]
    refine map_none _ ?_
    rw [step_on 5 4 bs (by omega) (by omega)]
    refine map_none _ ?_
    rw [step_on 6 3 bs (by omega) (by omega)]
    refine map_none _ ?_
    exact rv_out 7 2 bs (by omega)
  · go_ret2
    have hk : pl.rv 10 bs = some _ := (step_on 0 9 bs (by omega) (by omega)).trans (map_some _ ((step_on 1 8 bs (by omega) (by omega)).trans (map_some _ ((step_on 2 7 bs (by omega) (by omega)).trans (map_some _ ((step_on 3 6 bs (by omega) (by omega)).trans (map_some _ ((step_on 4 5 bs (by omega) (by omega)).trans (map_some _ ((step_on 5 4 bs (by omega) (by omega)).trans (map_some _ ((step_on 6 3 bs (by omega) (by omega)).trans (map_some _ (step_end 7 2 bs (by omega) (by omega) (by omega)))))))))))))))
    refine CV.some_ hk ?_ ?_ rfl
    all_goals (dsimp only; first | omega | (simp only [IntKind.wrap_u64]; omega))
  · go_ret2
    refine CV.none_ ?_ rfl (by decide) rfl
    show pl.rv 10 (bs.drop 0) = none
    rw [step_on 0 9 bs (by omega) (by omega)]
    refine map_none _ ?_
    rw [step_on 1 8 bs (by omega) (by omega)]
    refine map_none _ ?_
    rw [step_on 2 7 bs (by omega) (by omega)]
    refine map_none _ ?_
    rw [step_on 3 6 bs (by omega) (by omega)]
    refine map_none _ ?_
    rw [step_on 4 5 bs (by omega) (by omega)]
    refine map_none _ ?_
    rw [step_on 5 4 bs (by omega) (by omega)]
    refine map_none _ ?_
    rw [step_on 6 3 bs (by omega) (by omega)]
    refine map_none _ ?_
    rw [step_on 7 2 bs (by omega) (by omega)]
    refine map_none _ ?_
    exact rv_out 8 1 bs (by omega)
  · go_ret2
    have hk : pl.rv 10 bs = some _ := (step_on 0 9 bs (by omega) (by omega)).trans (map_some _ ((step_on 1 8 bs (by omega) (by omega)).trans (map_some _ ((step_on 2 7 bs (by omega) (by omega)).trans (map_some _ ((step_on 3 6 bs (by omega) (by omega)).trans (map_some _ ((step_on 4 5 bs (by omega) (by omega)).trans (map_some _ ((step_on 5 4 bs (by omega) (by omega)).trans (map_some _ ((step_on 6 3 bs (by omega) (by omega)).trans (map_some _ ((step_on 7 2 bs (by omega) (by omega)).trans (map_some _ (step_end 8 1 bs (by omega) (by omega) (by omega)))))))))))))))))
    refine CV.some_ hk ?_ ?_ rfl
    all_goals (dsimp only; first | omega | (simp only [IntKind.wrap_u64]; omega))
  · go_ret2
    refine CV.none_ ?_ rfl (by decide) rfl
    show pl.rv 10 (bs.drop 0) = none
    rw [step_on 0 9 bs (by omega) (by omega)]
    refine map_none _ ?_
    rw [step_on 1 8 bs (by omega) (by omega)]
    refine map_none _ ?_
    rw [step_on 2 7 bs (by omega) (by omega)]
    refine map_none _ ?_
    rw [step_on 3 6 bs (by omega) (by omega)]
    refine map_none _ ?_
    rw [step_on 4 5 bs (by omega) (by omega)]
    refine map_none _ ?_
    rw [step_on 5 4 bs (by omega) (by omega)]
    refine map_none _ ?_
    rw [step_on 6 3 bs (by omega) (by omega)]
    refine map_none _ ?_
    rw [step_on 7 2 bs (by omega) (by omega)]
    refine map_none _ ?_
    rw [step_on 8 1 bs (by omega) (by omega)]
    refine map_none _ ?_
    exact rv_out 9 0 bs (by omega)
  · go_ret2
    have hk : pl.rv 10 bs = some _ := (step_on 0 9 bs (by omega) (by omega)).trans (map_some _ ((step_on 1 8 bs (by omega) (by omega)).trans (map_some _ ((step_on 2 7 bs (by omega) (by omega)).trans (map_some _ ((step_on 3 6 bs (by omega) (by omega)).trans (map_some _ ((step_on 4 5 bs (by omega) (by omega)).trans (map_some _ ((step_on 5 4 bs (by omega) (by omega)).trans (map_some _ ((step_on 6 3 bs (by omega) (by omega)).trans (map_some _ ((step_on 7 2 bs (by omega) (by omega)).trans (map_some _ ((step_on 8 1 bs (by omega) (by omega)).trans (map_some _ (step_end 9 0 bs (by omega) (by omega) (by omega)))))))))))))))))))
    refine CV.some_ hk ?_ ?_ rfl
    all_goals (dsimp only; first | omega | (simp only [IntKind.wrap_u64]; omega))
  · go_ret2
    refine CV.none_ ?_ rfl (by decide) rfl
    show pl.rv 10 (bs.drop 0) = none
    rw [step_on 0 9 bs (by omega) (by omega)]
    refine map_none _ ?_
    rw [step_on 1 8 bs (by omega) (by omega)]
    refine map_none _ ?_
    rw [step_on 2 7 bs (by omega) (by omega)]
    refine map_none _ ?_
    rw [step_on 3 6 bs (by omega) (by omega)]
    refine map_none _ ?_
    rw [step_on 4 5 bs (by omega) (by omega)]
    refine map_none _ ?_
    rw [step_on 5 4 bs (by omega) (by omega)]
    refine map_none _ ?_
    rw [step_on 6 3 bs (by omega) (by omega)]
    refine map_none _ ?_
    rw [step_on 7 2 bs (by omega) (by omega)]
    refine map_none _ ?_
    rw [step_on 8 1 bs (by omega) (by omega)]
    refine map_none _ ?_
    exact step_bad 9 bs (by omega) (by omega)
theorem wcv (A : Option Addr) (n c : Nat) (bs : List Nat) (B : Nat) (w : World) (hr : mem.Rd w B A bs) (hn : n = bs.length) (hm : n ≤ 9223372036854775807) :
    Calls Try.prog 36 #[.slice A n c] w (CV bs w) := by
  by_cases h0 : n = 0
  · subst h0
    obtain rfl : bs = [] := List.eq_nil_of_length_eq_zero hn.symm
    clear hn hr hm
    go_enter Try.func36, Try.ntmps36
    go_wp2
    go_ret2
    exact CV.none_ rfl rfl (by decide) rfl
  · obtain ⟨b, off, rfl, _, hc⟩ := hr.at_ (by omega)
    have hc' : ∀ k : Nat, (k : Int) < (n : Int) → w.cell? ⟨b, off + k, none⟩ = some (.int .u8 (bs.getD k 0 : Nat)) := fun k hk => hc k (by omega)
    exact wcv_pos b off n c bs (bs.getD 0 0) (bs.getD 1 0) (bs.getD 2 0) (bs.getD 3 0) (bs.getD 4 0) (bs.getD 5 0) (bs.getD 6 0) (bs.getD 7 0) (bs.getD 8 0) (bs.getD 9 0) w (by omega) hm
      (hr.byte _) (hr.byte _) (hr.byte _) (hr.byte _) (hr.byte _) (hr.byte _) (hr.byte _) (hr.byte _) (hr.byte _) (hr.byte _) hn.symm ⟨rfl, rfl, rfl, rfl, rfl, rfl, rfl, rfl, rfl, rfl⟩
      (hc' 0) (hc' 1) (hc' 2) (hc' 3) (hc' 4) (hc' 5) (hc' 6) (hc' 7) (hc' 8) (hc' 9)

end Go.Proofs.Ytacdclkhhgjkbaa.co
