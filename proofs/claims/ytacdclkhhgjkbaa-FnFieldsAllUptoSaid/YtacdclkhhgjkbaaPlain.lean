/-
  Plain lists of numbers, no program in sight: the digits of a number to the base 128, and how they are read.
-/
namespace Go.Proofs.Ytacdclkhhgjkbaa.pl

/-- The bytes of a number: its digits to the base 128, the least one first, each but the last one with 128 more (k: how many digits there may be beside the last). -/
def encF : Nat → Nat → List Nat
  | 0, v => [v]
  | k + 1, v => if v < 128 then [v] else (v % 128 + 128) :: encF k (v / 128)

def enc (v : Nat) : List Nat := encF 9 v

/-- Reading a number: k bytes at most, the last one of which is at most 1. -/
def rv : Nat → List Nat → Option (Nat × Nat)
  | 0, _ => none
  | _ + 1, [] => none
  | k + 1, b :: bs =>
    if b < 128 then (if k = 0 ∧ 1 < b then none else some (b, 1))
    else match rv k bs with
      | none => none
      | some (v, n) => some (b - 128 + 128 * v, n + 1)

/-- The digits' number. -/
def val : List Nat → Nat
  | [] => 0
  | b :: bs => b % 128 + 128 * val bs

theorem encF_ne (k v : Nat) : encF k v ≠ [] := by
  cases k with
  | zero => simp [encF]
  | succ k => unfold encF; split <;> simp

theorem encF_len_pos (k v : Nat) : 1 ≤ (encF k v).length := by
  have := encF_ne k v
  cases h : encF k v with
  | nil => exact absurd h this
  | cons a l => simp

theorem encF_len_le (k v : Nat) : (encF k v).length ≤ k + 1 := by
  induction k generalizing v with
  | zero => simp [encF]
  | succ k ih =>
    unfold encF
    split
    · simp
    · have := ih (v / 128); simp; omega

theorem encF_mono (k v w : Nat) (h : v ≤ w) : (encF k v).length ≤ (encF k w).length := by
  induction k generalizing v w with
  | zero => simp [encF]
  | succ k ih =>
    unfold encF
    by_cases hv : v < 128
    · rw [if_pos hv]
      split
      · simp
      · simp
    · rw [if_neg hv, if_neg (by omega)]
      have := ih (v / 128) (w / 128) (by omega)
      simp; omega

theorem rv_encF (k v : Nat) (more : List Nat) (h : v < 2 * 128 ^ k) : rv (k + 1) (encF k v ++ more) = some (v, (encF k v).length) := by
  induction k generalizing v with
  | zero =>
    have : v < 2 := by simpa using h
    simp only [encF, List.cons_append, List.nil_append, rv]
    rw [if_pos (by omega), if_neg (by omega)]
    rfl
  | succ k ih =>
    unfold encF
    by_cases hv : v < 128
    · rw [if_pos hv]
      simp only [List.cons_append, List.nil_append, rv]
      rw [if_pos hv, if_neg (by omega)]
      rfl
    · rw [if_neg hv]
      have h2 : v / 128 < 2 * 128 ^ k := by
        rw [Nat.pow_succ] at h
        omega
      simp only [List.cons_append]
      rw [rv, if_neg (by omega), ih _ h2]
      simp
      omega

theorem rv_cut (k v n : Nat) (h : n < (encF k v).length) : rv (k + 1) ((encF k v).take n) = none := by
  induction k generalizing v n with
  | zero =>
    have : n = 0 := by simp [encF] at h; omega
    subst this
    simp [rv]
  | succ k ih =>
    cases n with
    | zero => simp [rv]
    | succ n =>
      unfold encF at h ⊢
      by_cases hv : v < 128
      · rw [if_pos hv] at h
        simp at h
      · rw [if_neg hv] at h ⊢
        rw [List.take_succ_cons, rv, if_neg (by omega), ih _ n (by simpa using h)]

theorem enc_len_pos (v : Nat) : 1 ≤ (enc v).length := encF_len_pos 9 v
theorem enc_len_le (v : Nat) : (enc v).length ≤ 10 := encF_len_le 9 v
theorem rv_enc (v : Nat) (more : List Nat) (h : v < 18446744073709551616) : rv 10 (enc v ++ more) = some (v, (enc v).length) := rv_encF 9 v more (by omega)
theorem rv_enc_cut (v n : Nat) (h : n < (enc v).length) : rv 10 ((enc v).take n) = none := rv_cut 9 v n h

theorem encF_byte (k v : Nat) (h : v < 2 * 128 ^ k) : ∀ b ∈ encF k v, b < 256 := by
  induction k generalizing v with
  | zero => simp [encF]; simp at h; omega
  | succ k ih =>
    unfold encF
    split
    · simp; omega
    · have h2 : v / 128 < 2 * 128 ^ k := by
        rw [Nat.pow_succ] at h
        omega
      intro b hb
      rcases List.mem_cons.1 hb with h1 | h1
      · omega
      · exact ih _ h2 b h1
theorem enc_byte (v : Nat) (h : v < 18446744073709551616) : ∀ b ∈ enc v, b < 256 := encF_byte 9 v (by omega)

/-- What a reading that comes through looks like. -/
theorem rv_some (k : Nat) (bs : List Nat) (v n : Nat) (h : rv k bs = some (v, n)) :
    ∃ init last more, bs = init ++ last :: more ∧ (∀ b ∈ init, 128 ≤ b) ∧ last < 128 ∧ init.length + 1 ≤ k ∧ (init.length + 1 = k → last ≤ 1) ∧ n = init.length + 1 ∧
      ((∀ b ∈ bs, b < 256) → v = val (init ++ [last])) := by
  induction k generalizing bs v n with
  | zero => simp [rv] at h
  | succ k ih =>
    cases bs with
    | nil => simp [rv] at h
    | cons b bs =>
      rw [rv] at h
      by_cases hb : b < 128
      · rw [if_pos hb] at h
        by_cases hk : k = 0 ∧ 1 < b
        · rw [if_pos hk] at h; cases h
        · rw [if_neg hk] at h
          simp only [Option.some.injEq, Prod.mk.injEq] at h
          obtain ⟨rfl, rfl⟩ := h
          refine ⟨[], b, bs, rfl, by simp, hb, by simp, by simp; omega, rfl, fun _ => ?_⟩
          simp [val]; omega
      · rw [if_neg hb] at h
        split at h
        · cases h
        · rename_i v' n' hr
          simp only [Option.some.injEq, Prod.mk.injEq] at h
          obtain ⟨rfl, rfl⟩ := h
          obtain ⟨init, last, more, h1, h2, h3, h4, h5, h6, h7⟩ := ih bs v' n' hr
          refine ⟨b :: init, last, more, by simp [h1], ?_, h3, by simp; omega, by simp; omega, by simp; omega, ?_⟩
          · intro x hx
            rcases List.mem_cons.1 hx with rfl | hx
            · omega
            · exact h2 x hx
          · intro hall
            have := h7 (fun x hx => hall x (List.mem_cons_of_mem _ hx))
            have hb2 := hall b (List.mem_cons_self ..)
            simp only [List.cons_append, val]
            omega

theorem rv_some_len (k : Nat) (bs : List Nat) (v n : Nat) (h : rv k bs = some (v, n)) : 1 ≤ n ∧ n ≤ k ∧ n ≤ bs.length := by
  obtain ⟨init, last, more, h1, _, _, h4, _, h6, _⟩ := rv_some k bs v n h
  subst h1
  simp
  omega

theorem rv_some_lt (k : Nat) (bs : List Nat) (v n : Nat) (hb : ∀ b ∈ bs, b < 256) (h : rv (k + 1) bs = some (v, n)) : v < 2 * 128 ^ k := by
  induction k generalizing bs v n with
  | zero =>
    cases bs with
    | nil => simp [rv] at h
    | cons b bs =>
      rw [rv] at h
      by_cases h1 : b < 128
      · rw [if_pos h1] at h
        by_cases h2 : (0 : Nat) = 0 ∧ 1 < b
        · rw [if_pos h2] at h; cases h
        · rw [if_neg h2] at h
          simp only [Option.some.injEq, Prod.mk.injEq] at h
          have hh : ¬ 1 < b := fun hc => h2 ⟨rfl, hc⟩
          simp; omega
      · rw [if_neg h1] at h
        simp [rv] at h
  | succ k ih =>
    cases bs with
    | nil => simp [rv] at h
    | cons b bs =>
      rw [rv] at h
      have hb0 := hb b (List.mem_cons_self ..)
      have hp : 0 < 128 ^ k := Nat.pow_pos (by decide)
      by_cases h1 : b < 128
      · rw [if_pos h1, if_neg (by omega)] at h
        simp only [Option.some.injEq, Prod.mk.injEq] at h
        rw [Nat.pow_succ]
        omega
      · rw [if_neg h1] at h
        split at h
        · cases h
        · rename_i v' n' hr
          simp only [Option.some.injEq, Prod.mk.injEq] at h
          have := ih bs v' n' (fun x hx => hb x (List.mem_cons_of_mem _ hx)) hr
          rw [Nat.pow_succ]
          omega
theorem rv10_lt (bs : List Nat) (v n : Nat) (hb : ∀ b ∈ bs, b < 256) (h : rv 10 bs = some (v, n)) : v < 18446744073709551616 := by
  have := rv_some_lt 9 bs v n hb h
  simpa using this

theorem rv_of (k : Nat) (init : List Nat) (last : Nat) (more : List Nat) (h1 : ∀ b ∈ init, 128 ≤ b ∧ b < 256) (h2 : last < 128) (h3 : init.length + 1 ≤ k) (h4 : init.length + 1 = k → last ≤ 1) :
    rv k (init ++ last :: more) = some (val (init ++ [last]), init.length + 1) := by
  induction init generalizing k with
  | nil =>
    cases k with
    | zero => simp at h3
    | succ k =>
      simp only [List.nil_append, rv]
      rw [if_pos h2, if_neg (by simp at h4; omega)]
      simp [val]; omega
  | cons b init ih =>
    cases k with
    | zero => simp at h3
    | succ k =>
      have hb := h1 b (List.mem_cons_self ..)
      simp only [List.length_cons] at h3 h4
      simp only [List.cons_append]
      rw [rv, if_neg (by omega), ih k (fun x hx => h1 x (List.mem_cons_of_mem _ hx)) (by omega) (by omega)]
      simp [val]; omega

/-- A byte that goes on, in front. -/
theorem rv_go (k b : Nat) (bs : List Nat) (h : 128 ≤ b) : rv (k + 1) (b :: bs) = (rv k bs).map fun x => (b - 128 + 128 * x.1, x.2 + 1) := by
  rw [rv, if_neg (by omega)]
  cases rv k bs with
  | none => rfl
  | some x => rfl

/-- k bytes that go on, in front of what is left. -/
theorem front_sum (b v p q x : Nat) (hb : 128 ≤ b) (hb2 : b < 256) (hq : q = 128 * p) : b - 128 + 128 * (v + p * x) = b % 128 + 128 * v + q * x := by
  subst hq
  rw [Nat.mul_add, ← Nat.mul_assoc]
  omega

theorem rv_front (m : Nat) (init bs : List Nat) (h : ∀ b ∈ init, 128 ≤ b ∧ b < 256) : rv (init.length + m) (init ++ bs) = (rv m bs).map fun x => (val init + 128 ^ init.length * x.1, x.2 + init.length) := by
  induction init with
  | nil => simp [val]
  | cons b init ih =>
    have hb := h b (List.mem_cons_self ..)
    have ih := ih (fun x hx => h x (List.mem_cons_of_mem _ hx))
    have e : (b :: init).length + m = (init.length + m) + 1 := by simp; omega
    have e2 : (128 : Nat) ^ (b :: init).length = 128 * 128 ^ init.length := by rw [List.length_cons, Nat.pow_succ, Nat.mul_comm]
    rw [e, List.cons_append, rv_go _ _ _ hb.1, ih]
    generalize rv m bs = r
    cases r with
    | none => simp only [Option.map_none]
    | some x =>
      simp only [Option.map_some]
      rw [front_sum b (val init) (128 ^ init.length) _ x.1 hb.1 hb.2 e2, val, show x.2 + init.length + 1 = x.2 + (b :: init).length by simp; omega]

theorem rv_long (k : Nat) (init bs : List Nat) (h : ∀ b ∈ init, 128 ≤ b) (hk : k ≤ init.length) : rv k (init ++ bs) = none := by
  induction init generalizing k with
  | nil => simp at hk; subst hk; rfl
  | cons b init ih =>
    cases k with
    | zero => rfl
    | succ k =>
      rw [List.cons_append, rv_go _ _ _ (h b (List.mem_cons_self ..)), ih k (fun x hx => h x (List.mem_cons_of_mem _ hx)) (by simpa using hk)]
      rfl

theorem len_le_iff (k j v : Nat) (hj : j < k) : (encF k v).length ≤ j + 1 ↔ v < 128 ^ (j + 1) := by
  induction k generalizing j v with
  | zero => omega
  | succ k ih =>
    have hp : 128 ≤ 128 ^ (j + 1) := by rw [Nat.pow_succ]; have : 0 < 128 ^ j := Nat.pow_pos (by decide); omega
    unfold encF
    by_cases hv : v < 128
    · rw [if_pos hv]
      simp
      omega
    · rw [if_neg hv]
      cases j with
      | zero =>
        have := encF_len_pos k (v / 128)
        simp only [List.length_cons, Nat.zero_add, Nat.pow_one]
        omega
      | succ j =>
        have := ih j (v / 128) (by omega)
        have e : v / 128 < 128 ^ (j + 1) ↔ v < 128 ^ (j + 1 + 1) := by
          rw [Nat.div_lt_iff_lt_mul (by decide), ← Nat.pow_succ]
        simp only [List.length_cons]
        omega

/-- How many digits, by the number's size. -/
theorem enc_len (v : Nat) : (enc v).length =
    if v < 128 then 1 else if v < 16384 then 2 else if v < 2097152 then 3 else if v < 268435456 then 4 else if v < 34359738368 then 5 else if v < 4398046511104 then 6
    else if v < 562949953421312 then 7 else if v < 72057594037927936 then 8 else if v < 9223372036854775808 then 9 else 10 := by
  have h0 := len_le_iff 9 0 v (by decide)
  have h1 := len_le_iff 9 1 v (by decide)
  have h2 := len_le_iff 9 2 v (by decide)
  have h3 := len_le_iff 9 3 v (by decide)
  have h4 := len_le_iff 9 4 v (by decide)
  have h5 := len_le_iff 9 5 v (by decide)
  have h6 := len_le_iff 9 6 v (by decide)
  have h7 := len_le_iff 9 7 v (by decide)
  have h8 := len_le_iff 9 8 v (by decide)
  have h9 := enc_len_le v
  have hp := enc_len_pos v
  unfold enc at *
  generalize (encF 9 v).length = l at *
  repeat' split
  all_goals omega

end Go.Proofs.Ytacdclkhhgjkbaa.pl
