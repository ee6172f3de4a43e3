/-
  Plain lists of numbers: the reading of groups with rounds enough, by its depth alone.
-/
import Derived.Test.YtacdclkhhgjkbaaPlainG
namespace Go.Proofs.Ytacdclkhhgjkbaa.pl

theorem grp_fuel (f f' d : Nat) (num : Int) (bs : List Nat) (hf : bs.length < f) (hf' : bs.length < f') : grp f d num bs = grp f' d num bs := by
  induction f generalizing d f' num bs with
  | zero => omega
  | succ f ih =>
    obtain ⟨f', rfl⟩ : ∃ g, f' = g + 1 := ⟨f' - 1, by omega⟩
    cases d with
    | zero => rfl
    | succ d =>
      rw [grp, grp]
      split
      · rfl
      · rename_i x hx
        have hl := rtag_len (a := x.1) (k := x.2.1) (n := x.2.2) hx
        split
        · rfl
        · have e1 : fval (grp f d) x.1 x.2.1 (bs.drop x.2.2) = fval (grp f' d) x.1 x.2.1 (bs.drop x.2.2) := by
            unfold fval
            rw [ih f' d _ _ (by simp; omega) (by simp; omega)]
          rw [e1]
          split
          · rfl
          · rename_i m hm
            rw [ih f' (d + 1) _ _ (by simp; omega) (by simp; omega)]

/-- A group, so many within each other at most. -/
def G (d : Nat) (num : Int) (bs : List Nat) : Option (Nat × Nat) := grp (bs.length + 1) d num bs
/-- A field's value, so many groups within each other at most. -/
def V (d : Nat) (num : Int) (kd : Nat) (bs : List Nat) : Option Nat := fval (G d) num kd bs
/-- How a group goes on behind a number of bytes. -/
def on (k : Nat) (o : Option (Nat × Nat)) : Option (Nat × Nat) := o.map fun y => (k + y.1, k + y.2)

theorem on_zero (o : Option (Nat × Nat)) : on 0 o = o := by cases o <;> simp [on]
theorem on_on (k m : Nat) (o : Option (Nat × Nat)) : on k (on m o) = on (k + m) o := by cases o <;> simp [on]; omega
theorem V_simple (d : Nat) (num : Int) (kd : Nat) (bs : List Nat) (h : kd ≠ 3) : V d num kd bs = simple kd bs := by unfold V fval; rw [if_neg h]
theorem V_group (d : Nat) (num : Int) (bs : List Nat) : V d num 3 bs = (G d num bs).map fun x => x.2 := rfl
theorem G_zero (num : Int) (bs : List Nat) : G 0 num bs = none := rfl
theorem V_len (d : Nat) (num : Int) (kd : Nat) (bs : List Nat) (m : Nat) (h : V d num kd bs = some m) : m ≤ bs.length := fval_len (bs.length + 1) d num kd bs m h
theorem G_none (d : Nat) (num : Int) (bs : List Nat) (h : rtag bs = none) : G d num bs = none := by
  cases d with
  | zero => rfl
  | succ d => unfold G; rw [grp, h]
theorem G_end (d : Nat) (num : Int) (bs : List Nat) (a m : Nat) (h : rtag bs = some (a, 4, m)) : G (d + 1) num bs = if (a : Int) = num then some (0, m) else none := by
  unfold G
  rw [grp, h]
  simp
theorem G_on (d : Nat) (num : Int) (bs : List Nat) (a k m : Nat) (h : rtag bs = some (a, k, m)) (hk : k ≠ 4) :
    G (d + 1) num bs = match V d a k (bs.drop m) with | none => none | some v => on (m + v) (G (d + 1) num (bs.drop (m + v))) := by
  have hl := rtag_len h
  have e1 : fval (grp bs.length d) a k (bs.drop m) = V d a k (bs.drop m) := by
    unfold V fval G
    rw [grp_fuel bs.length ((bs.drop m).length + 1) d a (bs.drop m) (by simp; omega) (by omega)]
  unfold G
  rw [grp, h]
  simp only [hk, if_false, e1]
  cases hv : V d a k (bs.drop m) with
  | none => rfl
  | some v =>
    simp only
    rw [grp_fuel bs.length ((bs.drop (m + v)).length + 1) (d + 1) num (bs.drop (m + v)) (by simp; omega) (by omega)]
    rfl
/-- With as many groups as bytes: the depth does not matter. -/
theorem G_enough (d d' : Nat) (num : Int) (bs : List Nat) (hd : bs.length < d) (hd' : bs.length < d') : G d num bs = G d' num bs := grp_enough _ _ _ _ num bs (by omega) hd (by omega) hd'
theorem V_enough (d d' : Nat) (num : Int) (kd : Nat) (bs : List Nat) (hd : bs.length < d) (hd' : bs.length < d') : V d num kd bs = V d' num kd bs := by
  unfold V fval
  rw [G_enough d d' num bs hd hd']
end Go.Proofs.Ytacdclkhhgjkbaa.pl
