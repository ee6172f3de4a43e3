/-
  Plain lists of numbers, no program in sight: tags, bytes behind their number, values of fields, groups, as they are read.
-/
import Derived.Test.YtacdclkhhgjkbaaPlain
namespace Go.Proofs.Ytacdclkhhgjkbaa.pl

def rtag (bs : List Nat) : Option (Nat × Nat × Nat) :=
  match rv 10 bs with
  | none => none
  | some x => if x.1 / 8 < 1 ∨ 2147483647 < x.1 / 8 then none else some (x.1 / 8, x.1 % 8, x.2)

/-- Bytes behind their number: where they begin and end. -/
def rbytes (bs : List Nat) : Option (Nat × Nat) :=
  match rv 10 bs with
  | none => none
  | some x => if bs.length - x.2 < x.1 then none else some (x.2, x.2 + x.1)

def simple (kd : Nat) (bs : List Nat) : Option Nat :=
  if kd = 0 then (rv 10 bs).map fun x => x.2
  else if kd = 5 then (if 4 ≤ bs.length then some 4 else none)
  else if kd = 1 then (if 8 ≤ bs.length then some 8 else none)
  else if kd = 2 then (rbytes bs).map fun x => x.2
  else none

def fval (g : Int → List Nat → Option (Nat × Nat)) (num : Int) (kd : Nat) (bs : List Nat) : Option Nat :=
  if kd = 3 then (g num bs).map fun x => x.2 else simple kd bs

/-- Fields up to the end of a group: where the end begins, and how many bytes all are (the first number: rounds that may still be, the second: groups that may still be within each other). -/
def grp : Nat → Nat → Int → List Nat → Option (Nat × Nat)
  | 0, _, _, _ => none
  | _ + 1, 0, _, _ => none
  | f + 1, d + 1, num, bs =>
    match rtag bs with
    | none => none
    | some x =>
      if x.2.1 = 4 then (if (x.1 : Int) = num then some (0, x.2.2) else none)
      else match fval (grp f d) x.1 x.2.1 (bs.drop x.2.2) with
        | none => none
        | some m => (grp f (d + 1) num (bs.drop (x.2.2 + m))).map fun y => (x.2.2 + m + y.1, x.2.2 + m + y.2)

/-- A number out of bytes, the least one first. -/
def leN : Nat → List Nat → Nat
  | 0, _ => 0
  | k + 1, bs => bs.getD 0 0 + 256 * leN k (bs.drop 1)
theorem leN_at (k : Nat) (bs : List Nat) (j : Nat) : leN (k + 1) (bs.drop j) = bs.getD j 0 + 256 * leN k (bs.drop (j + 1)) := by
  rw [leN, List.drop_drop, List.getD_eq_getElem?_getD, List.getD_eq_getElem?_getD, List.getElem?_drop, Nat.add_zero]
theorem leN_lt (k : Nat) (bs : List Nat) (h : ∀ j, bs.getD j 0 < 256) : leN k bs < 256 ^ k := by
  induction k generalizing bs with
  | zero => simp [leN]
  | succ k ih =>
    have h1 := ih (bs.drop 1) (fun j => by have := h (1 + j); rwa [List.getD_eq_getElem?_getD, List.getElem?_drop, ← List.getD_eq_getElem?_getD])
    have h2 := h 0
    rw [leN, Nat.pow_succ]
    omega

theorem rtag_some {bs : List Nat} {a k n : Nat} (h : rtag bs = some (a, k, n)) : ∃ v, rv 10 bs = some (v, n) ∧ a = v / 8 ∧ k = v % 8 ∧ 1 ≤ a ∧ a ≤ 2147483647 := by
  unfold rtag at h
  split at h
  · cases h
  · rename_i x hx
    split at h
    · cases h
    · rename_i hc
      simp only [Option.some.injEq, Prod.mk.injEq] at h
      obtain ⟨rfl, rfl, rfl⟩ := h
      exact ⟨x.1, hx, rfl, rfl, by omega, by omega⟩

theorem rtag_len {bs : List Nat} {a k n : Nat} (h : rtag bs = some (a, k, n)) : 1 ≤ n ∧ n ≤ 10 ∧ n ≤ bs.length ∧ k < 8 := by
  obtain ⟨v, h1, _, h3, _⟩ := rtag_some h
  have := rv_some_len 10 bs v n h1
  omega

theorem rbytes_len {bs : List Nat} {a e : Nat} (h : rbytes bs = some (a, e)) : 1 ≤ a ∧ a ≤ e ∧ e ≤ bs.length := by
  unfold rbytes at h
  split at h
  · cases h
  · rename_i x hx
    split at h
    · cases h
    · rename_i hc
      simp only [Option.some.injEq, Prod.mk.injEq] at h
      have := rv_some_len 10 bs x.1 x.2 hx
      omega

theorem simple_len {kd : Nat} {bs : List Nat} {m : Nat} (h : simple kd bs = some m) : m ≤ bs.length := by
  unfold simple at h
  split at h
  · cases hr : rv 10 bs with
    | none => rw [hr] at h; cases h
    | some x =>
      rw [hr] at h
      simp only [Option.map_some, Option.some.injEq] at h
      have := rv_some_len 10 bs x.1 x.2 hr
      omega
  · split at h
    · split at h
      · simp only [Option.some.injEq] at h; omega
      · cases h
    · split at h
      · split at h
        · simp only [Option.some.injEq] at h; omega
        · cases h
      · split at h
        · cases hr : rbytes bs with
          | none => rw [hr] at h; cases h
          | some x =>
            rw [hr] at h
            simp only [Option.map_some, Option.some.injEq] at h
            have := rbytes_len (a := x.1) (e := x.2) hr
            omega
        · cases h

theorem grp_len (f d : Nat) (num : Int) (bs : List Nat) (e t : Nat) (h : grp f d num bs = some (e, t)) : e < t ∧ t ≤ bs.length := by
  induction f generalizing d num bs e t with
  | zero => simp [grp] at h
  | succ f ih =>
    cases d with
    | zero => simp [grp] at h
    | succ d =>
      rw [grp] at h
      split at h
      · cases h
      · rename_i x hx
        have hl := rtag_len (a := x.1) (k := x.2.1) (n := x.2.2) hx
        split at h
        · split at h
          · simp only [Option.some.injEq, Prod.mk.injEq] at h; omega
          · cases h
        · split at h
          · cases h
          · rename_i m hm
            cases hr : grp f (d + 1) num (bs.drop (x.2.2 + m)) with
            | none => rw [hr] at h; cases h
            | some y =>
              rw [hr] at h
              simp only [Option.map_some, Option.some.injEq, Prod.mk.injEq] at h
              have := ih (d + 1) num _ y.1 y.2 hr
              simp only [List.length_drop] at this
              omega

theorem fval_len (f d : Nat) (num : Int) (kd : Nat) (bs : List Nat) (m : Nat) (h : fval (grp f d) num kd bs = some m) : m ≤ bs.length := by
  unfold fval at h
  split at h
  · cases hr : grp f d num bs with
    | none => rw [hr] at h; cases h
    | some y =>
      rw [hr] at h
      simp only [Option.map_some, Option.some.injEq] at h
      have := grp_len f d num bs y.1 y.2 hr
      omega
  · exact simple_len h

/-- More rounds, and deeper: what came through comes through. -/
theorem grp_more (f d f' d' : Nat) (hf : f ≤ f') (hd : d ≤ d') (num : Int) (bs : List Nat) (y : Nat × Nat) (h : grp f d num bs = some y) : grp f' d' num bs = some y := by
  induction f generalizing d f' d' num bs y with
  | zero => simp [grp] at h
  | succ f ih =>
    cases d with
    | zero => simp [grp] at h
    | succ d =>
      obtain ⟨f', rfl⟩ : ∃ g, f' = g + 1 := ⟨f' - 1, by omega⟩
      obtain ⟨d', rfl⟩ : ∃ g, d' = g + 1 := ⟨d' - 1, by omega⟩
      rw [grp] at h ⊢
      split at h
      · cases h
      · rename_i x hx
        try simp only [hx]
        split at h
        · rename_i hk
          rw [if_pos hk]
          exact h
        · rename_i hk
          rw [if_neg hk]
          split at h
          · cases h
          · rename_i m hm
            have hm' : fval (grp f' d') x.1 x.2.1 (bs.drop x.2.2) = some m := by
              unfold fval at hm ⊢
              split at hm
              · rename_i h3
                rw [if_pos h3]
                cases hr : grp f d x.1 (bs.drop x.2.2) with
                | none => rw [hr] at hm; cases hm
                | some z =>
                  rw [hr] at hm
                  rw [ih d f' d' (by omega) (by omega) _ _ z hr]
                  exact hm
              · rename_i h3
                rw [if_neg h3]
                exact hm
            simp only [hm']
            cases hr : grp f (d + 1) num (bs.drop (x.2.2 + m)) with
            | none => rw [hr] at h; cases h
            | some z =>
              rw [hr] at h
              rw [ih (d + 1) f' (d' + 1) (by omega) (by omega) _ _ z hr]
              exact h

/-- Rounds and depths beyond the bytes' number do not matter. -/
theorem grp_enough (f d f' d' : Nat) (num : Int) (bs : List Nat) (hf : bs.length < f) (hd : bs.length < d) (hf' : bs.length < f') (hd' : bs.length < d') : grp f d num bs = grp f' d' num bs := by
  induction f generalizing d f' d' num bs with
  | zero => omega
  | succ f ih =>
    obtain ⟨f', rfl⟩ : ∃ g, f' = g + 1 := ⟨f' - 1, by omega⟩
    obtain ⟨d', rfl⟩ : ∃ g, d' = g + 1 := ⟨d' - 1, by omega⟩
    obtain ⟨d, rfl⟩ : ∃ g, d = g + 1 := ⟨d - 1, by omega⟩
    rw [grp, grp]
    split
    · rfl
    · rename_i x hx
      have hl := rtag_len (a := x.1) (k := x.2.1) (n := x.2.2) hx
      split
      · rfl
      · have e1 : fval (grp f d) x.1 x.2.1 (bs.drop x.2.2) = fval (grp f' d') x.1 x.2.1 (bs.drop x.2.2) := by
          unfold fval
          rw [ih d f' d' _ _ (by simp; omega) (by simp; omega) (by simp; omega) (by simp; omega)]
        rw [e1]
        split
        · rfl
        · rename_i m hm
          rw [ih (d + 1) f' (d' + 1) _ _ (by simp; omega) (by simp; omega) (by simp; omega) (by simp; omega)]

end Go.Proofs.Ytacdclkhhgjkbaa.pl
