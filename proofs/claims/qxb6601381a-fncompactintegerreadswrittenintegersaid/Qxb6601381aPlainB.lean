/- The plain mathematics of a written integer: no Go in sight. -/
import Derived.Test.Qxb6601381aPlain
namespace Go.Proofs.Qxb6601381a

/-- The decimal digits of m, the highest first; none for 0 (f: fuel). -/
def dgF : Nat → Nat → List Int
  | 0, _ => []
  | f + 1, m => if m = 0 then [] else dgF f (m / 10) ++ [48 + ((m % 10 : Nat) : Int)]

theorem dgF_zero (f : Nat) : dgF f 0 = [] := by cases f <;> simp [dgF]

theorem dgF_succ (f m : Nat) (h : 0 < m) : dgF (f + 1) m = dgF f (m / 10) ++ [48 + ((m % 10 : Nat) : Int)] := by
  rw [dgF, if_neg (by omega)]

theorem dgF_digs : ∀ f m, Digs (dgF f m)
  | 0, m => fun b hb => by cases hb
  | f + 1, m => by
    unfold dgF
    split
    · exact fun b hb => by cases hb
    · intro b hb
      rcases List.mem_append.1 hb with hb | hb
      · exact dgF_digs f _ b hb
      · simp at hb
        have := Nat.mod_lt m (show 0 < 10 by decide)
        omega

theorem dgF_num : ∀ f m, m < 10 ^ f → num (dgF f m) = (m : Int)
  | 0, m, h => by simp at h; subst h; rfl
  | f + 1, m, h => by
    by_cases h0 : m = 0
    · subst h0; rw [dgF_zero]; rfl
    · rw [dgF_succ f m (by omega), num_snoc, dgF_num f (m / 10) (by rw [Nat.pow_succ] at h; omega)]
      omega

theorem dgF_len : ∀ f m, (dgF f m).length ≤ f
  | 0, m => by simp [dgF]
  | f + 1, m => by
    unfold dgF
    split
    · simp
    · have := dgF_len f (m / 10)
      simp; omega

/-- How long the digits are: at most k digits exactly when m is below 10^k. -/
theorem dgF_len_le : ∀ f m k, m < 10 ^ f → ((dgF f m).length ≤ k ↔ m < 10 ^ k)
  | 0, m, k, h => by
    simp at h; subst h
    simp [dgF]
    exact Nat.pow_pos (by decide)
  | f + 1, m, k, h => by
    by_cases h0 : m = 0
    · subst h0; rw [dgF_zero]; simp; exact Nat.pow_pos (by decide)
    · rw [dgF_succ f m (by omega), List.length_append, List.length_singleton]
      cases k with
      | zero => simp; omega
      | succ k =>
        have ih := dgF_len_le f (m / 10) k (by rw [Nat.pow_succ] at h; omega)
        rw [Nat.pow_succ, Nat.add_le_add_iff_right, ih]
        omega

theorem dgF_head : ∀ f m, m < 10 ^ f → (dgF f m).head? ≠ some 48
  | 0, m, _ => by simp [dgF]
  | f + 1, m, h => by
    by_cases h0 : m = 0
    · subst h0; rw [dgF_zero]; simp
    · rw [dgF_succ f m (by omega), List.head?_append]
      by_cases h1 : m / 10 = 0
      · rw [h1, dgF_zero]
        simp; omega
      · have ih := dgF_head f (m / 10) (by rw [Nat.pow_succ] at h; omega)
        cases hd : (dgF f (m / 10)).head? with
        | none =>
          rw [List.head?_eq_none_iff] at hd
          have := dgF_num f (m / 10) (by rw [Nat.pow_succ] at h; omega)
          rw [hd] at this
          simp [num] at this
          omega
        | some c => rw [hd] at ih; simpa using ih

/-- The digits of a magnitude, as they are written. -/
def magL (m : Nat) : List Int := if m = 0 then [48] else dgF 19 m

/-- The text of v. -/
def fmtL (v : Int) : List Int := (if v < 0 then [45] else []) ++ magL v.natAbs

theorem magL_digs (m : Nat) : Digs (magL m) := by
  unfold magL
  split
  · intro b hb; simp at hb; omega
  · exact dgF_digs 19 m

theorem magL_num (m : Nat) (h : m < 10000000000000000000) : num (magL m) = (m : Int) := by
  unfold magL
  split
  · rename_i h0; subst h0; rfl
  · exact dgF_num 19 m h

theorem magL_pos (m : Nat) (h : m < 10000000000000000000) : 0 < (magL m).length := by
  unfold magL
  split
  · simp
  · rename_i h0
    have := dgF_num 19 m h
    cases hl : dgF 19 m with
    | nil => rw [hl] at this; simp [num] at this; omega
    | cons c r => simp

theorem magL_len (m : Nat) (h : m < 10000000000000000000) : (magL m).length ≤ 18 ↔ m < 1000000000000000000 := by
  unfold magL
  split
  · rename_i h0; subst h0; simp
  · exact dgF_len_le 19 m 18 h

theorem magL_len19 (m : Nat) : (magL m).length ≤ 19 := by
  unfold magL
  split
  · simp
  · exact dgF_len 19 m

theorem takeWhile_all : ∀ (D S : List Int), Digs D → (∀ c, S.head? = some c → isDig c = false) → (D ++ S).takeWhile isDig = D
  | [], S, _, h => by
    cases S with
    | nil => rfl
    | cons c r =>
      have := h c rfl
      rw [List.nil_append, List.takeWhile_cons_of_neg (by rw [this]; decide)]
  | d :: D, S, hD, h => by
    have hd := (isDig_iff d).2 (hD d (by simp))
    rw [List.cons_append, List.takeWhile_cons_of_pos hd, takeWhile_all D S (fun b hb => hD b (by simp [hb])) h]

theorem tokLen_mag (m : Nat) (S : List Int) (hm : m < 10000000000000000000) (h : m = 0 ∨ ∀ c, S.head? = some c → isDig c = false) : tokLen (magL m ++ S) = (magL m).length := by
  by_cases h0 : m = 0
  · subst h0; simp [magL, tokLen]
  · have hS : ∀ c, S.head? = some c → isDig c = false := h.resolve_left h0
    have hh := dgF_head 19 m hm
    have hd := dgF_digs 19 m
    have hp := magL_pos m hm
    unfold magL at hp ⊢
    rw [if_neg h0] at hp ⊢
    cases hl : dgF 19 m with
    | nil => rw [hl] at hp; simp at hp
    | cons c r =>
      rw [hl] at hh hd
      have hc : ¬ c = 48 := fun e => hh (by rw [e]; rfl)
      rw [List.cons_append, tokLen_cons, if_neg hc, if_pos ((isDig_iff c).2 (hd c (by simp))), takeWhile_all r S (fun b hb => hd b (by simp [hb])) hS, List.length_cons]
      omega

/-- THE PLAIN LAW: an integer that was written reads back. -/
theorem ci_written (pre suf : List Int) (v n bs : Int) (hv1 : -9223372036854775808 ≤ v) (hv2 : v ≤ 9223372036854775807) (hs : v = 0 ∨ ∀ c, suf.head? = some c → isDig c = false) :
    ci (pre ++ (fmtL v ++ suf)) pre.length n bs = if decide (-1000000000000000000 < v) && decide (v < 1000000000000000000) && fitsB bs v then (v, ((pre.length + (fmtL v).length : Nat) : Int), true) else (n, (pre.length : Int), false) := by
  have hm : v.natAbs < 10000000000000000000 := by omega
  obtain ⟨m, hme⟩ : ∃ m, m = v.natAbs := ⟨_, rfl⟩
  have hp := magL_pos m (by omega)
  have hneg : negAt (pre ++ (fmtL v ++ suf)) pre.length = decide (v < 0) := by
    unfold negAt
    rw [List.getElem?_append_right (Nat.le_refl _), Nat.sub_self]
    unfold fmtL
    by_cases h : v < 0
    · simp [h]
    · rw [if_neg h, List.nil_append, ← hme, List.getElem?_append_left hp, List.getElem?_eq_getElem hp]
      have := magL_digs m (magL m)[0] (List.getElem_mem _)
      rw [decide_eq_false h]
      simp
      omega
  have hpos : posAt (pre ++ (fmtL v ++ suf)) pre.length = pre.length + (if v < 0 then 1 else 0) := by
    unfold posAt
    rw [hneg]
    by_cases h : v < 0 <;> simp [h]
  have hdrop : (pre ++ (fmtL v ++ suf)).drop (posAt (pre ++ (fmtL v ++ suf)) pre.length) = magL m ++ suf := by
    rw [hpos, List.drop_length_add_append]
    unfold fmtL
    rw [← hme]
    by_cases h : v < 0 <;> simp [h]
  have htok : tokLen ((pre ++ (fmtL v ++ suf)).drop (posAt (pre ++ (fmtL v ++ suf)) pre.length)) = (magL m).length := by
    rw [hdrop]
    exact tokLen_mag m suf (by omega) (hs.imp (fun h => by omega) id)
  have hsg : sgn (decide (v < 0)) (num (magL m)) = v := by
    rw [magL_num m (by omega)]
    unfold sgn
    by_cases h : v < 0 <;> simp [h] <;> omega
  have hfl : (fmtL v).length = (if v < 0 then 1 else 0) + (magL m).length := by
    unfold fmtL
    rw [← hme]
    by_cases h : v < 0 <;> simp [h]
    omega
  have hlen := magL_len m (by omega)
  unfold ci
  rw [htok, hdrop, hneg, List.take_left, hsg, hpos, hfl]
  by_cases h18 : (magL m).length ≤ 18
  · rw [if_neg (by omega)]
    have hlt := hlen.1 h18
    rw [decide_eq_true (by omega : -1000000000000000000 < v), decide_eq_true (by omega : v < 1000000000000000000), Bool.true_and, Bool.true_and]
    by_cases hf : fitsB bs v = true
    · rw [if_pos hf, if_pos hf, Nat.add_assoc]
    · rw [if_neg hf, if_neg hf]
  · rw [if_pos (.inr (by omega))]
    have hge : ¬ m < 1000000000000000000 := fun h => h18 (hlen.2 h)
    have : (decide (-1000000000000000000 < v) && decide (v < 1000000000000000000)) = false := by
      rw [Bool.and_eq_false_iff, decide_eq_false_iff_not, decide_eq_false_iff_not]
      omega
    rw [this, Bool.false_and]
    rfl

end Go.Proofs.Qxb6601381a
