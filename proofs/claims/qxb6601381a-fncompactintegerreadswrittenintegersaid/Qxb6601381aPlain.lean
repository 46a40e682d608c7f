/- The plain mathematics of the compact integer: no Go in sight. -/
namespace Go.Proofs.Qxb6601381a

/-- A list of decimal digits. -/
def Digs (L : List Int) : Prop := ∀ b ∈ L, 48 ≤ b ∧ b ≤ 57

def isDig (c : Int) : Bool := decide (48 ≤ c) && decide (c ≤ 57)

/-- The number that decimal digits write. -/
def num (D : List Int) : Int := D.foldl (fun n c => n * 10 + (c - 48)) 0

theorem num_snoc (D : List Int) (c : Int) : num (D ++ [c]) = num D * 10 + (c - 48) := by
  unfold num
  rw [List.foldl_append]
  rfl

theorem foldl_shift : ∀ (D : List Int) (a : Int), D.foldl (fun n c => n * 10 + (c - 48)) a = a * 10 ^ D.length + num D
  | [], a => by simp [num]
  | c :: D, a => by
    rw [List.foldl_cons, foldl_shift D, List.length_cons, Int.pow_succ]
    have e : num (c :: D) = (0 * 10 + (c - 48)) * 10 ^ D.length + num D := by
      show (c :: D).foldl (fun n c => n * 10 + (c - 48)) 0 = _
      rw [List.foldl_cons, foldl_shift D]
    rw [e, Int.add_mul, Int.mul_comm (10 ^ D.length) 10, ← Int.mul_assoc, Int.zero_mul, Int.zero_add, Int.add_assoc]

theorem num_cons (c : Int) (D : List Int) : num (c :: D) = (c - 48) * 10 ^ D.length + num D := by
  show (c :: D).foldl (fun n c => n * 10 + (c - 48)) 0 = _
  rw [List.foldl_cons, foldl_shift D, Int.zero_mul, Int.zero_add]

theorem num_bounds : ∀ D : List Int, Digs D → 0 ≤ num D ∧ num D < 10 ^ D.length
  | [], _ => by simp [num]
  | c :: D, h => by
    obtain ⟨h1, h2⟩ := h c (by simp)
    have ih := num_bounds D (fun b hb => h b (by simp [hb]))
    rw [num_cons, List.length_cons, Int.pow_succ]
    have hp : (0 : Int) < 10 ^ D.length := Int.pow_pos (by decide)
    have h3 : (c - 48) * 10 ^ D.length ≤ 9 * 10 ^ D.length := Int.mul_le_mul_of_nonneg_right (by omega) (Int.le_of_lt hp)
    have h4 : 0 ≤ (c - 48) * 10 ^ D.length := Int.mul_nonneg (by omega) (Int.le_of_lt hp)
    omega

theorem pow_le18 (k : Nat) (h : k ≤ 18) : (10 : Int) ^ k ≤ 1000000000000000000 := by
  have h1 : ((10 ^ k : Nat) : Int) ≤ ((10 ^ 18 : Nat) : Int) := Int.ofNat_le.2 (Nat.pow_le_pow_right (by decide) h)
  rw [Int.natCast_pow] at h1
  exact h1

theorem num_le18 (D : List Int) (h : Digs D) (hl : D.length ≤ 18) : 0 ≤ num D ∧ num D < 1000000000000000000 := by
  have h1 := num_bounds D h
  have h2 := pow_le18 D.length hl
  omega

/-- Does v lie in the range of bs bits? -/
def fitsB (bs v : Int) : Bool := decide (64 ≤ bs) || (decide (-(2 ^ (bs - 1).toNat) ≤ v) && decide (v < 2 ^ (bs - 1).toNat))

/-- The signed value. -/
def sgn (neg : Bool) (m : Int) : Int := if neg then -m else m

/-- What shortInteger answers on a sign and digits. -/
def sh (neg : Bool) (D : List Int) (bs : Int) : Int × Bool :=
  if 18 < D.length then (0, false) else if fitsB bs (sgn neg (num D)) then (sgn neg (num D), true) else (0, false)

/-- Does a minus sign stand at i? -/
def negAt (B : List Int) (i : Nat) : Bool := B[i]? == some 45

/-- Where the digits begin. -/
def posAt (B : List Int) (i : Nat) : Nat := if negAt B i then i + 1 else i

/-- How long the integer token at the head of L is (0: there is none). -/
def tokLen : List Int → Nat
  | [] => 0
  | c :: r => if c = 48 then 1 else if isDig c then 1 + (r.takeWhile isDig).length else 0

theorem tokLen_cons (c : Int) (r : List Int) : tokLen (c :: r) = if c = 48 then 1 else if isDig c = true then 1 + (r.takeWhile isDig).length else 0 := rfl

/-- What integer answers: the number, the position, the report. -/
def ci (B : List Int) (i : Nat) (n bs : Int) : Int × Int × Bool :=
  if tokLen (B.drop (posAt B i)) = 0 ∨ 18 < tokLen (B.drop (posAt B i)) then (n, (i : Int), false)
  else if fitsB bs (sgn (negAt B i) (num ((B.drop (posAt B i)).take (tokLen (B.drop (posAt B i)))))) then
    (sgn (negAt B i) (num ((B.drop (posAt B i)).take (tokLen (B.drop (posAt B i))))), ((posAt B i + tokLen (B.drop (posAt B i)) : Nat) : Int), true)
  else (n, (i : Int), false)

theorem isDig_iff (c : Int) : isDig c = true ↔ 48 ≤ c ∧ c ≤ 57 := by simp [isDig]

theorem takeWhile_dig : ∀ (L : List Int) (k : Nat), k < (L.takeWhile isDig).length → ∃ c, L[k]? = some c ∧ 48 ≤ c ∧ c ≤ 57
  | [], k, h => by simp at h
  | c :: L, k, h => by
    by_cases hc : isDig c = true
    · rw [List.takeWhile_cons_of_pos hc] at h
      cases k with
      | zero => exact ⟨c, rfl, (isDig_iff c).1 hc⟩
      | succ k =>
        obtain ⟨d, h1, h2⟩ := takeWhile_dig L k (by simpa using h)
        exact ⟨d, by simpa using h1, h2⟩
    · rw [List.takeWhile_cons_of_neg hc] at h
      simp at h

theorem takeWhile_end : ∀ (L : List Int) (c : Int), L[(L.takeWhile isDig).length]? = some c → c < 48 ∨ 57 < c
  | [], c, h => by simp at h
  | d :: L, c, h => by
    by_cases hc : isDig d = true
    · rw [List.takeWhile_cons_of_pos hc] at h
      exact takeWhile_end L c (by simpa using h)
    · rw [List.takeWhile_cons_of_neg hc] at h
      simp at h
      subst h
      have : ¬ (48 ≤ d ∧ d ≤ 57) := fun e => hc ((isDig_iff d).2 e)
      omega

/-- The token's facts, where there is one. -/
theorem tok_spec (L : List Int) (h : 0 < tokLen L) : tokLen L ≤ L.length ∧ (∀ k, k < tokLen L → ∃ c, L[k]? = some c ∧ 48 ≤ c ∧ c ≤ 57) := by
  cases L with
  | nil => simp [tokLen] at h
  | cons c r =>
    rw [tokLen_cons] at h ⊢
    by_cases h1 : c = 48
    · rw [if_pos h1]
      refine ⟨by simp, fun k hk => ⟨c, ?_, by omega, by omega⟩⟩
      obtain rfl : k = 0 := by omega
      rfl
    · by_cases h2 : isDig c = true
      · rw [if_neg h1, if_pos h2]
        refine ⟨?_, fun k hk => ?_⟩
        · have := (List.takeWhile_sublist (l := r) isDig).length_le
          simp only [List.length_cons]; omega
        · cases k with
          | zero => exact ⟨c, rfl, (isDig_iff c).1 h2⟩
          | succ k =>
            obtain ⟨d, e1, e2⟩ := takeWhile_dig r k (by omega)
            exact ⟨d, by simpa using e1, e2⟩
      · rw [if_neg h1, if_neg h2] at h
        omega

/-- Behind a token that does not begin with a zero digit stands no digit. -/
theorem tok_end (L : List Int) (h : 0 < tokLen L) (h0 : L[0]? ≠ some 48) (c : Int) (hc : L[tokLen L]? = some c) : c < 48 ∨ 57 < c := by
  cases L with
  | nil => simp [tokLen] at h
  | cons d r =>
    have h1 : ¬ d = 48 := fun e => h0 (by rw [e]; rfl)
    rw [tokLen_cons, if_neg h1] at h hc
    by_cases h2 : isDig d = true
    · rw [if_pos h2] at hc
      rw [Nat.add_comm, List.getElem?_cons_succ] at hc
      exact takeWhile_end r c hc
    · rw [if_neg h2] at h
      omega

theorem tok_zero (L : List Int) (h : tokLen L = 0) (c : Int) (hc : L[0]? = some c) : c < 48 ∨ 57 < c := by
  cases L with
  | nil => simp at hc
  | cons d r =>
    simp at hc
    subst hc
    rw [tokLen_cons] at h
    by_cases h1 : d = 48
    · rw [if_pos h1] at h; omega
    · rw [if_neg h1] at h
      by_cases h2 : isDig d = true
      · rw [if_pos h2] at h; omega
      · have : ¬ (48 ≤ d ∧ d ≤ 57) := fun e => h2 ((isDig_iff d).2 e)
        omega

theorem tok_one (L : List Int) (h : L[0]? = some 48) : tokLen L = 1 := by
  cases L with
  | nil => simp at h
  | cons d r => simp at h; subst h; simp [tokLen]

theorem tok_digs (L : List Int) : Digs (L.take (tokLen L)) := by
  intro b hb
  by_cases h : 0 < tokLen L
  · obtain ⟨k, hk⟩ := List.getElem?_of_mem hb
    rw [List.getElem?_take] at hk
    split at hk
    · obtain ⟨c, e1, e2⟩ := (tok_spec L h).2 k ‹_›
      rw [e1] at hk
      cases hk
      exact e2
    · cases hk
  · have : tokLen L = 0 := by omega
    rw [this] at hb
    simp at hb

theorem ci_none (B : List Int) (i : Nat) (n bs : Int) (h : tokLen (B.drop (posAt B i)) = 0) : ci B i n bs = (n, (i : Int), false) := by
  unfold ci
  rw [if_pos (.inl h)]

theorem ci_sh (B : List Int) (i : Nat) (n bs : Int) (h : 0 < tokLen (B.drop (posAt B i))) :
    ci B i n bs = if (sh (negAt B i) ((B.drop (posAt B i)).take (tokLen (B.drop (posAt B i)))) bs).2 then
      ((sh (negAt B i) ((B.drop (posAt B i)).take (tokLen (B.drop (posAt B i)))) bs).1, ((posAt B i + tokLen (B.drop (posAt B i)) : Nat) : Int), true) else (n, (i : Int), false) := by
  have hl : ((B.drop (posAt B i)).take (tokLen (B.drop (posAt B i)))).length = tokLen (B.drop (posAt B i)) := by
    have := (tok_spec _ h).1
    rw [List.length_take]; omega
  unfold ci sh
  rw [hl]
  by_cases h18 : 18 < tokLen (B.drop (posAt B i))
  · rw [if_pos (.inr h18), if_pos h18]; rfl
  · rw [if_neg (by omega), if_neg h18]
    by_cases hf : fitsB bs (sgn (negAt B i) (num ((B.drop (posAt B i)).take (tokLen (B.drop (posAt B i)))))) = true
    · rw [if_pos hf, if_pos hf]; rfl
    · rw [if_neg hf, if_neg hf]; rfl

end Go.Proofs.Qxb6601381a
