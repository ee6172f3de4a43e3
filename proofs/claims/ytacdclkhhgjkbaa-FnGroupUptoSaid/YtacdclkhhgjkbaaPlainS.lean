/-
  Plain lists of numbers, no program in sight: how many bytes a number has that is written with more bytes than it needs; where the tag begins that ends a group.
-/
import Derived.Test.YtacdclkhhgjkbaaPlainG
namespace Go.Proofs.Ytacdclkhhgjkbaa.pl

theorem val_lt (l : List Nat) : val l < 128 ^ l.length := by
  induction l with
  | nil => simp [val]
  | cons b l ih =>
    rw [val, List.length_cons, Nat.pow_succ]
    have : b % 128 < 128 := Nat.mod_lt _ (by decide)
    omega

theorem val_zero (l z : List Nat) (h : ∀ b ∈ z, b % 128 = 0) : val (l ++ z) = val l := by
  induction l with
  | nil =>
    induction z with
    | nil => rfl
    | cons b z ih =>
      have h1 := h b (List.mem_cons_self ..)
      have h2 := ih (fun x hx => h x (List.mem_cons_of_mem _ hx))
      simp only [List.nil_append, val] at h2 ⊢
      omega
  | cons b l ih => simp only [List.cons_append, val, ih]

theorem val_ge (l : List Nat) (b : Nat) (hb : b % 128 ≠ 0) : 128 ^ l.length ≤ val (l ++ [b]) := by
  induction l with
  | nil => simp [val]; omega
  | cons c l ih =>
    rw [List.length_cons, Nat.pow_succ, List.cons_append, val]
    omega

theorem enc_len_val (l : List Nat) (b : Nat) (hl : l.length ≤ 9) (hb : b % 128 ≠ 0) : (enc (val (l ++ [b]))).length = l.length + 1 := by
  have h1 := val_ge l b hb
  have h2 := val_lt (l ++ [b])
  simp only [List.length_append, List.length_cons, List.length_nil, Nat.zero_add] at h2
  have h3 := enc_len_le (val (l ++ [b]))
  have h4 := enc_len_pos (val (l ++ [b]))
  have up : (enc (val (l ++ [b]))).length ≤ l.length + 1 := by
    rcases Nat.lt_or_ge l.length 9 with h | h
    · exact (len_le_iff 9 l.length _ h).2 h2
    · omega
  have low : l.length + 1 ≤ (enc (val (l ++ [b]))).length := by
    rcases Nat.eq_zero_or_pos l.length with h | h
    · omega
    · have h6 := len_le_iff 9 (l.length - 1) (val (l ++ [b])) (by omega)
      rw [show l.length - 1 + 1 = l.length by omega] at h6
      unfold enc
      omega
  omega

/-- The type has no effect on a tag's size. -/
theorem enc_len_tag (a k : Nat) (hk : k < 8) : (enc (a * 8 + k)).length = (enc (a * 8)).length := by
  have h1 := encF_mono 9 (a * 8) (a * 8 + k) (by omega)
  have h2 : ∀ j, j < 9 → (enc (a * 8)).length ≤ j + 1 → (enc (a * 8 + k)).length ≤ j + 1 := by
    intro j hj h
    have e : 128 ^ (j + 1) = 8 * (16 * 128 ^ j) := by rw [Nat.pow_succ]; omega
    have h3 := (len_le_iff 9 j (a * 8) hj).1 h
    exact (len_le_iff 9 j (a * 8 + k) hj).2 (by omega)
  have h3 := enc_len_pos (a * 8)
  have h4 := enc_len_le (a * 8)
  have h5 := enc_len_le (a * 8 + k)
  rcases Nat.lt_or_ge (enc (a * 8)).length 10 with h | h
  · have := h2 ((enc (a * 8)).length - 1) (by omega) (by omega)
    unfold enc at *
    omega
  · unfold enc at *
    omega

theorem grp_end (f d : Nat) (num : Int) (bs : List Nat) (e t : Nat) (h : grp f d num bs = some (e, t)) : ∃ a, rtag (bs.drop e) = some (a, 4, t - e) ∧ (a : Int) = num := by
  induction f generalizing d num bs e t with
  | zero => simp [grp] at h
  | succ f ih =>
    cases d with
    | zero => simp [grp] at h
    | succ d =>
      rw [grp] at h
      split at h
      · cases h
      · rename_i x hx
        split at h
        · rename_i hk
          split at h
          · rename_i hn
            simp only [Option.some.injEq, Prod.mk.injEq] at h
            obtain ⟨rfl, rfl⟩ := h
            exact ⟨x.1, by rw [List.drop_zero, hx, ← hk]; rfl, hn⟩
          · cases h
        · split at h
          · cases h
          · rename_i m hm
            cases hr : grp f (d + 1) num (bs.drop (x.2.2 + m)) with
            | none => rw [hr] at h; cases h
            | some y =>
              rw [hr] at h
              simp only [Option.map_some, Option.some.injEq, Prod.mk.injEq] at h
              obtain ⟨rfl, rfl⟩ := h
              obtain ⟨a, h1, h2⟩ := ih (d + 1) num _ y.1 y.2 hr
              refine ⟨a, ?_, h2⟩
              rw [List.drop_drop] at h1
              rw [h1, show x.2.2 + m + y.2 - (x.2.2 + m + y.1) = y.2 - y.1 by omega]

/-- Where the tag begins that ends a group: behind it the bytes without digits are left away, and as many as its number has. -/
theorem strip_to (bs : List Nat) (e t j : Nat) (hb : ∀ b ∈ bs, b < 256) (a : Nat) (htag : rtag (bs.drop e) = some (a, 4, t - e)) (het : e < t)
    (hj : j ≤ t) (hz : ∀ i, j ≤ i → i < t → bs.getD i 0 % 128 = 0) (hend : j = 0 ∨ bs.getD (j - 1) 0 % 128 ≠ 0) : j = e + (enc (a * 8)).length := by
  obtain ⟨v, hv, ha, hk, ha1, _⟩ := rtag_some htag
  obtain ⟨init, last, more, h1, h2, h3, h4, h5, h6, h7⟩ := rv_some 10 _ v _ hv
  have hval := h7 (fun b hb' => hb b (List.mem_of_mem_drop hb'))
  have hvne : v ≠ 0 := by omega
  have htake : (bs.drop e).take (t - e) = init ++ [last] := by
    rw [h1, h6, show init ++ last :: more = (init ++ [last]) ++ more by simp]
    exact List.take_left' (by simp)
  have hget : ∀ i, e + i < t → bs.getD (e + i) 0 = (init ++ [last]).getD i 0 := by
    intro i hi
    rw [← htake, List.getD_eq_getElem?_getD, List.getD_eq_getElem?_getD, List.getElem?_take, if_pos (by omega), List.getElem?_drop]
  have hlen : (init ++ [last]).length = t - e := by simp; omega
  -- j lies behind e
  have hje : e < j := by
    rcases Nat.lt_or_ge e j with h | h
    · exact h
    · exfalso
      apply hvne
      rw [hval]
      have := val_zero [] (init ++ [last]) (fun b hb' => by
        obtain ⟨i, hi, rfl⟩ := List.mem_iff_getElem.1 hb'
        have e1 := hget i (by omega)
        have e2 := hz (e + i) (by omega) (by omega)
        rw [e1, List.getD_eq_getElem?_getD, List.getElem?_eq_getElem hi] at e2
        exact e2)
      rw [List.nil_append] at this
      rw [this]
      rfl
  have hsplit : init ++ [last] = (init ++ [last]).take (j - e) ++ (init ++ [last]).drop (j - e) := (List.take_append_drop _ _).symm
  have hval2 : v = val ((init ++ [last]).take (j - e)) := by
    rw [hval]
    conv => lhs; rw [hsplit]
    apply val_zero
    intro b hb'
    obtain ⟨i, hi, rfl⟩ := List.mem_iff_getElem.1 hb'
    rw [List.length_drop] at hi
    have e1 := hget (j - e + i) (by omega)
    have e2 := hz (e + (j - e + i)) (by omega) (by omega)
    rw [e1, List.getD_eq_getElem?_getD] at e2
    rw [List.getElem_drop]
    rw [List.getElem?_eq_getElem (by omega)] at e2
    exact e2
  have hlen2 : ((init ++ [last]).take (j - e)).length = j - e := by rw [List.length_take]; omega
  obtain ⟨l, b, hlb⟩ : ∃ l b, (init ++ [last]).take (j - e) = l ++ [b] := by
    rcases List.eq_nil_or_concat ((init ++ [last]).take (j - e)) with h | ⟨l, b, h⟩
    · rw [h] at hlen2; simp at hlen2; omega
    · exact ⟨l, b, by rw [h, List.concat_eq_append]⟩
  have hll : l.length + 1 = j - e := by rw [hlb] at hlen2; simpa using hlen2
  have hbz : b % 128 ≠ 0 := by
    have e1 := hget (j - 1 - e) (by omega)
    rw [show e + (j - 1 - e) = j - 1 by omega] at e1
    have e2 : (init ++ [last]).getD (j - 1 - e) 0 = b := by
      have e3 : ((init ++ [last]).take (j - e)).getD (j - 1 - e) 0 = (init ++ [last]).getD (j - 1 - e) 0 := by
        rw [List.getD_eq_getElem?_getD, List.getD_eq_getElem?_getD, List.getElem?_take, if_pos (by omega)]
      rw [← e3, hlb, List.getD_eq_getElem?_getD, show j - 1 - e = l.length by omega]
      simp
    rw [e1, e2] at hend
    omega
  have hfin := enc_len_val l b (by omega) hbz
  rw [← hlb, ← hval2] at hfin
  have hv8 : v = a * 8 + 4 := by omega
  rw [hv8, enc_len_tag a 4 (by decide)] at hfin
  omega

end Go.Proofs.Ytacdclkhhgjkbaa.pl
