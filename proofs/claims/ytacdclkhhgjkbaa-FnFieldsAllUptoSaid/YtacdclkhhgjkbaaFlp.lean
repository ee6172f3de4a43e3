/-
  Plain lists of fields, one more at a time; and that their bytes are no more than a small multiple of what a statement's bound counts.
-/
import Derived.Test.YtacdclkhhgjkbaaTree
import Derived.Test.YtacdclkhhgjkbaaRows
namespace Go.Proofs.Ytacdclkhhgjkbaa.pl
section
variable {H : Type}

theorem fieldsOk_append (n : Nat) (l r : List (DataW H)) : fieldsOk n (l ++ r) = (fieldsOk n l && fieldsOk n r) := by
  cases n <;> simp [fieldsOk, List.all_append]
theorem fieldsOk_nil (n : Nat) : fieldsOk n ([] : List (DataW H)) = true := by
  cases n <;> simp [fieldsOk]
theorem take_step (l : List (DataW H)) (i : Nat) (h : i < l.length) : l.take (i + 1) = l.take i ++ [l.getD i .nil] := by
  rw [List.take_add_one, List.getElem?_eq_getElem h, List.getD_eq_getElem?_getD, List.getElem?_eq_getElem h]
  rfl
theorem fieldsOk_step (n : Nat) (l : List (DataW H)) (i : Nat) (h : i < l.length) (h1 : fieldsOk n (l.take i) = true) (h2 : fieldsOk n [l.getD i .nil] = true) : fieldsOk n (l.take (i + 1)) = true := by
  rw [take_step l i h, fieldsOk_append, h1, h2]
  rfl
theorem fieldsOk_at (n : Nat) (l : List (DataW H)) (i : Nat) (h : i < l.length) (h1 : fieldsOk n l = true) : fieldsOk n [l.getD i .nil] = true := by
  have e : l = l.take (i + 1) ++ l.drop (i + 1) := (List.take_append_drop _ _).symm
  rw [e, take_step l i h, fieldsOk_append, fieldsOk_append] at h1
  simp only [Bool.and_eq_true] at h1
  exact h1.1.2
theorem fieldsOk_no (n : Nat) (l : List (DataW H)) (i : Nat) (h : i < l.length) (h1 : fieldsOk n [l.getD i .nil] = false) : fieldsOk n l = false := by
  cases e : fieldsOk n l with
  | false => rfl
  | true => rw [fieldsOk_at n l i h e] at h1; exact h1

theorem one_num (n : Nat) (d : DataW H) (h : fNum d < 1 ∨ 536870911 < fNum d) : fieldsOk n [d] = false := by
  cases e : fieldsOk n [d] with
  | false => rfl
  | true => have := ok_parts e; omega
theorem one_kind (n : Nat) (d : DataW H) (h : ¬ (fKind d = 0 ∨ fKind d = 1 ∨ fKind d = 2 ∨ fKind d = 3 ∨ fKind d = 5)) : fieldsOk n [d] = false := by
  cases e : fieldsOk n [d] with
  | false => rfl
  | true => have := ok_parts e; exact absurd this.2.2.2.1 h
theorem one_plain (n : Nat) (d : DataW H) (h1 : 1 ≤ fNum d) (h2 : fNum d ≤ 536870911) (h : fKind d = 0 ∨ fKind d = 1 ∨ fKind d = 2 ∨ fKind d = 5) : fieldsOk n [d] = true := by
  cases n <;> simp only [fieldsOk, List.all_cons, List.all_nil, Bool.and_eq_true, numOk, decide_eq_true_eq, Bool.or_eq_true, and_true] <;> omega
theorem one_flat (d : DataW H) (h : fKind d = 3) : fieldsOk 0 [d] = false := by
  cases e : fieldsOk 0 [d] with
  | false => rfl
  | true => obtain ⟨m, hm, _⟩ := (ok_parts e).2.2.2.2 h; omega
theorem one_deep (n : Nat) (d : DataW H) (h1 : 1 ≤ fNum d) (h2 : fNum d ≤ 536870911) (h : fKind d = 3) : fieldsOk (n + 1) [d] = fieldsOk n (fKids d) := by
  rw [show fieldsOk (n + 1) [d] = (numOk (fNum d) && decide (0 ≤ fKind d) && decide (fKind d ≤ 5) && decide (fKind d ≠ 4) && (decide (fKind d ≠ 3) || fieldsOk n (fKids d)) && true) by simp [fieldsOk]]
  rw [h, show numOk (fNum d) = true by simp [numOk]; omega]
  simp

theorem fieldsB_append (n : Nat) (l r : List (DataW H)) : fieldsB n (l ++ r) = fieldsB n l ++ fieldsB n r := by
  cases n <;> simp [fieldsB]
theorem fieldsB_one (n : Nat) (d : DataW H) : fieldsB n [d] = enc (tagN (fNum d) (fKind d)) ++ valB (below H n) d := by
  rw [fieldsB_cons', fieldsB_nil, List.append_nil]
theorem fieldsB_step (n : Nat) (l : List (DataW H)) (i : Nat) (h : i < l.length) : fieldsB n (l.take (i + 1)) = (fieldsB n (l.take i) ++ enc (tagN (fNum (l.getD i .nil)) (fKind (l.getD i .nil)))) ++ valB (below H n) (l.getD i .nil) := by
  rw [take_step l i h, fieldsB_append, fieldsB_one, List.append_assoc]
theorem fieldsB_split (n : Nat) (l : List (DataW H)) (i : Nat) : fieldsB n l = fieldsB n (l.take i) ++ fieldsB n (l.drop i) := by
  rw [← fieldsB_append, List.take_append_drop]
theorem fieldsB_upto (n : Nat) (l : List (DataW H)) (i : Nat) : (fieldsB n (l.take i)).length ≤ (fieldsB n l).length := by
  rw [fieldsB_split n l i, List.length_append]
  omega

/-! ### The bound -/

theorem bulk_pos (d : DataW H) : 1 ≤ Rows.uptoBulk d := by
  cases d with
  | lit l => cases l <;> simp [Rows.uptoBulk]
  | nil => simp [Rows.uptoBulk]
  | ptr d => simp [Rows.uptoBulk]
  | slice elems spare => simp [Rows.uptoBulk]
  | agg parts => simp [Rows.uptoBulk]
  | iface t d => simp [Rows.uptoBulk]
  | map entries => simp [Rows.uptoBulk]
  | held h => simp [Rows.uptoBulk]
theorem bulk_mem {d : DataW H} {l : List (DataW H)} (h : d ∈ l) : Rows.uptoBulk d ≤ Rows.uptoBulkAll l := by
  induction l with
  | nil => cases h
  | cons x r ih =>
    simp only [Rows.uptoBulkAll]
    rcases List.mem_cons.1 h with e | e
    · subst e; omega
    · have := ih e; omega
theorem bulk_part (d : DataW H) (i : Nat) : Rows.uptoBulk (partOf d i) ≤ Rows.uptoBulk d := by
  cases d with
  | agg ps =>
    simp only [partOf, Rows.uptoBulk]
    rcases Nat.lt_or_ge i ps.length with h | h
    · have := bulk_mem (List.getElem_mem h)
      rw [List.getD_eq_getElem?_getD, List.getElem?_eq_getElem h]
      simp only [Option.getD_some]
      omega
    · rw [List.getD_eq_getElem?_getD, List.getElem?_eq_none h]
      simp [Rows.uptoBulk]
  | _ => exact bulk_pos _
theorem bulk_elems (d : DataW H) : Rows.uptoBulkAll (elemsOf d) + 1 ≤ Rows.uptoBulk d := by
  cases d with
  | slice es sp => simp only [elemsOf, Rows.uptoBulk]; omega
  | _ => exact bulk_pos _
theorem bulk_len (l : List (DataW H)) : l.length ≤ Rows.uptoBulkAll l := by
  induction l with
  | nil => simp
  | cons x r ih => have := bulk_pos x; simp only [Rows.uptoBulkAll, List.length_cons]; omega
theorem bulk_data (d : DataW H) : (fData d).length ≤ Rows.uptoBulk d := by
  have h1 := bulk_part d 3
  have h2 := bulk_elems (partOf d 3)
  have h3 := bulk_len (elemsOf (partOf d 3))
  simp only [fData, List.length_map]
  omega
theorem bulk_kids (d : DataW H) : Rows.uptoBulkAll (fKids d) + 1 ≤ Rows.uptoBulk d := by
  have h1 := bulk_part d 4
  have h2 := bulk_elems (partOf d 4)
  simp only [fKids]
  omega
/-- The bytes of fields: at most forty for each value that is counted. -/
theorem fieldsB_bulk (n : Nat) : ∀ (l : List (DataW H)), (fieldsB n l).length ≤ 40 * Rows.uptoBulkAll l := by
  have enc10 := fun v => enc_len_le v
  induction n with
  | zero =>
    intro l
    induction l with
    | nil => simp [fieldsB_nil]
    | cons d l ih =>
      rw [fieldsB_cons']
      have h1 := enc10 (tagN (fNum d) (fKind d))
      have h2 := enc10 (tagN (fNum d) 4)
      have h3 := enc10 (fV d)
      have h4 := enc10 (fData d).length
      have h5 := bulk_data d
      have h6 := bulk_pos d
      have hv : (valB (below H 0) d).length ≤ 20 + Rows.uptoBulk d := by
        unfold valB
        split
        · omega
        · split
          · rw [fix_len]; omega
          · split
            · rw [fix_len]; omega
            · split
              · rw [List.length_append]; omega
              · simp only [below, List.nil_append]; omega
      simp only [List.length_append, Rows.uptoBulkAll]
      omega
  | succ n ihn =>
    intro l
    induction l with
    | nil => simp [fieldsB_nil]
    | cons d l ih =>
      rw [fieldsB_cons']
      have h1 := enc10 (tagN (fNum d) (fKind d))
      have h2 := enc10 (tagN (fNum d) 4)
      have h3 := enc10 (fV d)
      have h4 := enc10 (fData d).length
      have h5 := bulk_data d
      have h6 := bulk_pos d
      have h7 := bulk_kids d
      have h8 := ihn (fKids d)
      have hv : (valB (below H (n + 1)) d).length ≤ 20 + 40 * Rows.uptoBulk d - 40 ∨ (valB (below H (n + 1)) d).length ≤ 20 + Rows.uptoBulk d := by
        unfold valB
        split
        · omega
        · split
          · rw [fix_len]; omega
          · split
            · rw [fix_len]; omega
            · split
              · rw [List.length_append]; omega
              · refine .inl ?_
                rw [List.length_append]
                simp only [below]
                omega
      simp only [List.length_append, Rows.uptoBulkAll]
      omega

end
end Go.Proofs.Ytacdclkhhgjkbaa.pl
