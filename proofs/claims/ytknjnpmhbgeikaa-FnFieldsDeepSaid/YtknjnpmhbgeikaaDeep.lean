/-
  Plain lists of numbers: groups within each other.
-/
import Derived.Test.YtknjnpmhbgeikaaPlainV
import Derived.Test.YtknjnpmhbgeikaaTree
namespace Go.Proofs.Ytknjnpmhbgeikaa.pl

def rep : Nat → List Nat → List Nat
  | 0, _ => []
  | k + 1, l => l ++ rep k l
theorem rep_snoc (k : Nat) (l : List Nat) : rep k l ++ l = rep (k + 1) l := by
  induction k with
  | zero => simp [rep]
  | succ k ih => rw [rep, List.append_assoc, ih]; rfl
theorem rep_len (k : Nat) (l : List Nat) (h : l.length ≤ 10) : (rep k l).length ≤ 10 * k := by
  induction k with
  | zero => simp [rep]
  | succ k ih => rw [rep, List.length_append]; omega

theorem drop_app (l m : List Nat) : (l ++ m).drop l.length = m := by simp
theorem deep (a : Nat) (h1 : 1 ≤ a) (h2 : a ≤ 2147483647) (m : Nat) : ∀ (d : Nat) (more : List Nat), m + 1 ≤ d → ∃ e, G d a (rep m (enc (a * 8 + 3)) ++ (rep (m + 1) (enc (a * 8 + 4)) ++ more)) = some (e, (rep m (enc (a * 8 + 3)) ++ rep (m + 1) (enc (a * 8 + 4))).length) := by
  induction m with
  | zero =>
    intro d more hd
    obtain ⟨d, rfl⟩ : ∃ g, d = g + 1 := ⟨d - 1, by omega⟩
    have ht := rtag_enc a 4 more h1 h2 (by decide)
    refine ⟨0, ?_⟩
    simp only [rep, List.nil_append, List.append_nil]
    rw [G_end d a _ a _ ht, if_pos rfl]
  | succ m ih =>
    intro d more hd
    obtain ⟨d, rfl⟩ : ∃ g, d = g + 1 := ⟨d - 1, by omega⟩
    obtain ⟨e, he⟩ := ih d (enc (a * 8 + 4) ++ more) (by omega)
    have ht := rtag_enc a 3 (rep m (enc (a * 8 + 3)) ++ (rep (m + 1) (enc (a * 8 + 4)) ++ (enc (a * 8 + 4) ++ more))) h1 h2 (by decide)
    have ht2 := rtag_enc a 4 more h1 h2 (by decide)
    have hlist : rep (m + 1) (enc (a * 8 + 3)) ++ (rep (m + 1 + 1) (enc (a * 8 + 4)) ++ more) = enc (a * 8 + 3) ++ (rep m (enc (a * 8 + 3)) ++ (rep (m + 1) (enc (a * 8 + 4)) ++ (enc (a * 8 + 4) ++ more))) := by
      rw [← rep_snoc (m + 1) (enc (a * 8 + 4)), rep]
      simp
    refine ⟨(enc (a * 8 + 3)).length + (rep m (enc (a * 8 + 3)) ++ rep (m + 1) (enc (a * 8 + 4))).length + 0, ?_⟩
    rw [hlist, G_on d a _ a 3 _ ht (by decide), drop_app, V_group, he]
    simp only [Option.map_some]
    rw [show (enc (a * 8 + 3) ++ (rep m (enc (a * 8 + 3)) ++ (rep (m + 1) (enc (a * 8 + 4)) ++ (enc (a * 8 + 4) ++ more)))).drop ((enc (a * 8 + 3)).length + (rep m (enc (a * 8 + 3)) ++ rep (m + 1) (enc (a * 8 + 4))).length) = enc (a * 8 + 4) ++ more by
      rw [← List.drop_drop, drop_app, ← List.append_assoc, drop_app], G_end d a _ a _ ht2, if_pos rfl]
    simp only [on, Option.map_some, Option.some.injEq, Prod.mk.injEq, true_and]
    rw [← rep_snoc (m + 1) (enc (a * 8 + 4)), show rep (m + 1) (enc (a * 8 + 3)) = enc (a * 8 + 3) ++ rep m (enc (a * 8 + 3)) from rfl]
    simp only [List.length_append]
    omega
/-- A cut in the last end: no group. -/
theorem deep_cut (a : Nat) (h1 : 1 ≤ a) (h2 : a ≤ 2147483647) (m d : Nat) (cut : List Nat) (hd : m < d) (hc : rtag cut = none) : G d a (rep m (enc (a * 8 + 3)) ++ (rep m (enc (a * 8 + 4)) ++ cut)) = none := by
  cases d with
  | zero => rfl
  | succ d =>
    cases m with
    | zero => exact G_none _ _ _ hc
    | succ m =>
      obtain ⟨e, he⟩ := deep a h1 h2 m d cut (by omega)
      have ht := rtag_enc a 3 (rep m (enc (a * 8 + 3)) ++ (rep (m + 1) (enc (a * 8 + 4)) ++ cut)) h1 h2 (by decide)
      have hlist : rep (m + 1) (enc (a * 8 + 3)) ++ (rep (m + 1) (enc (a * 8 + 4)) ++ cut) = enc (a * 8 + 3) ++ (rep m (enc (a * 8 + 3)) ++ (rep (m + 1) (enc (a * 8 + 4)) ++ cut)) := by
        rw [show rep (m + 1) (enc (a * 8 + 3)) = enc (a * 8 + 3) ++ rep m (enc (a * 8 + 3)) from rfl, List.append_assoc]
      rw [hlist, G_on d a _ a 3 _ ht (by decide), drop_app, V_group, he]
      simp only [Option.map_some]
      rw [show (enc (a * 8 + 3) ++ (rep m (enc (a * 8 + 3)) ++ (rep (m + 1) (enc (a * 8 + 4)) ++ cut))).drop ((enc (a * 8 + 3)).length + (rep m (enc (a * 8 + 3)) ++ rep (m + 1) (enc (a * 8 + 4))).length) = cut by
        rw [← List.drop_drop, drop_app, ← List.append_assoc, drop_app], G_none _ _ _ hc]
      rfl
end Go.Proofs.Ytknjnpmhbgeikaa.pl
