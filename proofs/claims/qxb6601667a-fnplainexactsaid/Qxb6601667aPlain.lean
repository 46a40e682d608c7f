/- The plain mathematics of 'plain(w)': eight bytes in one word. No Go in sight. -/
namespace Go.Proofs.Qxb6601667a

/-- The number whose bytes, the lowest first, are these. -/
def val : List Nat → Nat
  | [] => 0
  | b :: bs => b + 256 * val bs

/-- None of the lowest k bytes of X has its high bit. -/
def Low : Nat → Int → Prop
  | 0, _ => True
  | k + 1, X => X % 256 < 128 ∧ Low k (X / 256)

/-- The subtraction, byte by byte, of n from each byte: no high bit comes up exactly when no byte is below n. -/
theorem low_sub (n : Nat) (hn : n ≤ 32) : ∀ bs : List Nat, (∀ b ∈ bs, b < 128) →
    (Low bs.length (((val bs : Int) - val (List.replicate bs.length n)) % (256 : Int) ^ bs.length) ↔ ∀ b ∈ bs, n ≤ b)
  | [], _ => by simp [Low]
  | b :: bs, h => by
    have hb : b < 128 := h b (by simp)
    have ih := low_sub n hn bs (fun c hc => h c (by simp [hc]))
    obtain ⟨M, hM⟩ : ∃ M : Int, M = (256 : Int) ^ bs.length := ⟨_, rfl⟩
    have hMpos : 0 < M := by rw [hM]; exact Int.pow_pos (by decide)
    obtain ⟨u, hu⟩ : ∃ u : Int, u = (val bs : Int) := ⟨_, rfl⟩
    obtain ⟨v, hv⟩ : ∃ v : Int, v = (val (List.replicate bs.length n) : Int) := ⟨_, rfl⟩
    rw [← hM, ← hu, ← hv] at ih
    have e : ((val (b :: bs) : Int) - val (List.replicate (b :: bs).length n)) % (256 : Int) ^ (b :: bs).length = ((b : Int) - n + 256 * (u - v)) % (256 * M) := by
      simp only [val, List.length_cons, List.replicate_succ, Int.pow_succ, ← hM]
      rw [hu, hv, Int.mul_comm M 256]
      congr 1
      omega
    rw [e]
    simp only [List.length_cons, Low, List.mem_cons, forall_eq_or_imp]
    by_cases hbn : n ≤ b
    · have e2 : ((b : Int) - n + 256 * (u - v)) % (256 * M) = ((b : Int) - n) + 256 * ((u - v) % M) := by
        have h1 := Int.emod_add_mul_ediv (u - v) M
        have h2 := Int.emod_nonneg (u - v) (Int.ne_of_gt hMpos)
        have h3 := Int.emod_lt_of_pos (u - v) hMpos
        have h4 : (b : Int) - n + 256 * (u - v) = ((b : Int) - n + 256 * ((u - v) % M)) + (256 * M) * ((u - v) / M) := by
          have : 256 * (u - v) = 256 * ((u - v) % M) + 256 * (M * ((u - v) / M)) := by omega
          rw [this, Int.mul_assoc]
          omega
        rw [h4, Int.add_mul_emod_self_left]
        exact Int.emod_eq_of_lt (by omega) (by omega)
      rw [e2]
      have e3 : (((b : Int) - n) + 256 * ((u - v) % M)) % 256 = (b : Int) - n := by omega
      have e4 : (((b : Int) - n) + 256 * ((u - v) % M)) / 256 = (u - v) % M := by omega
      rw [e3, e4, ih]
      exact ⟨fun h => ⟨hbn, h.2⟩, fun h => ⟨by omega, h.2⟩⟩
    · have e3 : (((b : Int) - n) + 256 * (u - v)) % (256 * M) % 256 = (b : Int) - n + 256 := by
        rw [Int.emod_emod_of_dvd _ (Int.dvd_mul_right 256 M)]
        omega
      rw [e3]
      exact ⟨fun h => by omega, fun h => absurd h.1 hbn⟩

/-- The lowest k bytes of W, the lowest first. -/
def bytesN : Nat → Nat → List Nat
  | 0, _ => []
  | k + 1, W => W % 256 :: bytesN k (W / 256)

theorem bytesN_length : ∀ k W, (bytesN k W).length = k
  | 0, _ => rfl
  | k + 1, W => by simp [bytesN, bytesN_length k]

theorem val_bytesN : ∀ k W, W < 256 ^ k → val (bytesN k W) = W
  | 0, W, h => by simp at h; subst h; rfl
  | k + 1, W, h => by
    rw [Nat.pow_succ] at h
    simp only [bytesN, val]
    rw [val_bytesN k (W / 256) (Nat.div_lt_of_lt_mul (by omega))]
    omega

/-- k bytes, each 128. -/
def highs (k : Nat) : Nat := val (List.replicate k 128)

theorem highs_succ (k : Nat) : highs (k + 1) = 128 + 256 * highs k := rfl

theorem land_zero (A B : Nat) : A &&& B = 0 ↔ (A % 256) &&& (B % 256) = 0 ∧ (A / 256) &&& (B / 256) = 0 := by
  have h1 : (A &&& B) % 256 = (A % 256) &&& (B % 256) := Nat.and_mod_two_pow (n := 8)
  have h2 : (A &&& B) / 256 = (A / 256) &&& (B / 256) := Nat.and_div_two_pow (n := 8)
  rw [← h1, ← h2]
  omega

theorem land_eq (A B C : Nat) : A &&& B = C ↔ (A % 256) &&& (B % 256) = C % 256 ∧ (A / 256) &&& (B / 256) = C / 256 := by
  have h1 : (A &&& B) % 256 = (A % 256) &&& (B % 256) := Nat.and_mod_two_pow (n := 8)
  have h2 : (A &&& B) / 256 = (A / 256) &&& (B / 256) := Nat.and_div_two_pow (n := 8)
  rw [← h1, ← h2]
  omega

theorem byte_high : ∀ b, b < 256 → (b &&& 128 = 0 ↔ b < 128) := by decide +kernel
theorem byte_high2 : ∀ b, b < 128 → (255 - b) &&& 128 = 128 := by decide +kernel

theorem low_land : ∀ (k X : Nat), Low k (X : Int) ↔ X &&& highs k = 0
  | 0, X => by simp [Low, highs, val]
  | k + 1, X => by
    have e1 : (highs (k + 1)) % 256 = 128 := by rw [highs_succ]; omega
    have e2 : (highs (k + 1)) / 256 = highs k := by rw [highs_succ]; omega
    have ih := low_land k (X / 256)
    rw [land_zero, e1, e2, byte_high _ (Nat.mod_lt _ (by decide)), ← ih]
    simp only [Low]
    have e3 : ((X : Int) / 256) = ((X / 256 : Nat) : Int) := by omega
    rw [e3]
    constructor
    · rintro ⟨a, b⟩; exact ⟨by omega, b⟩
    · rintro ⟨a, b⟩; exact ⟨by omega, b⟩

theorem low_bytes : ∀ (k W : Nat), Low k (W : Int) ↔ ∀ b ∈ bytesN k W, b < 128
  | 0, W => by simp [Low, bytesN]
  | k + 1, W => by
    have ih := low_bytes k (W / 256)
    simp only [Low, bytesN, List.mem_cons, forall_eq_or_imp]
    have e3 : ((W : Int) / 256) = ((W / 256 : Nat) : Int) := by omega
    rw [e3, ih]
    constructor
    · rintro ⟨a, b⟩; exact ⟨by omega, b⟩
    · rintro ⟨a, b⟩; exact ⟨by omega, b⟩

theorem compl_land : ∀ (k v : Nat), v < 256 ^ k → v &&& highs k = 0 → (256 ^ k - 1 - v) &&& highs k = highs k
  | 0, v, _, _ => by simp [highs, val]
  | k + 1, v, hv, h => by
    have e1 : (highs (k + 1)) % 256 = 128 := by rw [highs_succ]; omega
    have e2 : (highs (k + 1)) / 256 = highs k := by rw [highs_succ]; omega
    rw [land_zero, e1, e2, byte_high _ (Nat.mod_lt _ (by decide))] at h
    obtain ⟨M, hM⟩ : ∃ M, M = 256 ^ k := ⟨_, rfl⟩
    have hp : 256 ^ (k + 1) = 256 * M := by rw [hM, Nat.pow_succ, Nat.mul_comm]
    have hM1 : 1 ≤ M := by rw [hM]; exact Nat.pow_pos (by decide)
    rw [hp] at hv ⊢
    have ih := compl_land k (v / 256) (by rw [← hM]; omega) h.2
    rw [← hM] at ih
    rw [land_eq, e1, e2]
    have a1 : (256 * M - 1 - v) % 256 = 255 - v % 256 := by omega
    have a2 : (256 * M - 1 - v) / 256 = M - 1 - v / 256 := by omega
    rw [a1, a2]
    exact ⟨byte_high2 _ h.1, ih⟩

theorem xor_zero_iff (a b : Nat) : a ^^^ b = 0 ↔ a = b := by
  constructor
  · intro h
    have : (a ^^^ b) ^^^ b = 0 ^^^ b := by rw [h]
    rwa [Nat.xor_assoc, Nat.xor_self, Nat.xor_zero, Nat.zero_xor] at this
  · rintro rfl
    exact Nat.xor_self a

theorem xor_bytes (c : Nat) (hc : c < 256) : ∀ (k W : Nat), (∀ b ∈ bytesN k (W ^^^ val (List.replicate k c)), 1 ≤ b) ↔ ∀ b ∈ bytesN k W, b ≠ c
  | 0, W => by simp [bytesN]
  | k + 1, W => by
    have h1 : (W ^^^ val (List.replicate (k + 1) c)) % 256 = (W % 256) ^^^ (val (List.replicate (k + 1) c) % 256) := Nat.xor_mod_two_pow (n := 8)
    have h2 : (W ^^^ val (List.replicate (k + 1) c)) / 256 = (W / 256) ^^^ (val (List.replicate (k + 1) c) / 256) := Nat.xor_div_two_pow (n := 8)
    have e1 : val (List.replicate (k + 1) c) % 256 = c := by simp only [List.replicate_succ, val]; omega
    have e2 : val (List.replicate (k + 1) c) / 256 = val (List.replicate k c) := by simp only [List.replicate_succ, val]; omega
    rw [e1] at h1
    rw [e2] at h2
    simp only [bytesN, List.mem_cons, forall_eq_or_imp]
    rw [h1, h2, xor_bytes c hc k (W / 256)]
    have e : 1 ≤ W % 256 ^^^ c ↔ W % 256 ≠ c := by
      rw [Nat.one_le_iff_ne_zero, Ne, Ne, xor_zero_iff]
    rw [e]

/-- below(v, n), with the word's own subtraction and complement. -/
def belowN (v n : Nat) : Nat := (((v : Int) - ((72340172838076673 * n : Nat) : Int)) % 18446744073709551616).toNat &&& (18446744073709551615 - v) &&& 9259542123273814144

theorem highs8 : highs 8 = 9259542123273814144 := by decide
theorem pow8 : (256 : Nat) ^ 8 = 18446744073709551616 := by decide

theorem ones_mul (n : Nat) : val (List.replicate 8 n) = 72340172838076673 * n := by
  simp only [List.replicate, val]
  omega

theorem below_zero (v n : Nat) (hv : v < 18446744073709551616) (hn : n ≤ 32) (h : v &&& 9259542123273814144 = 0) : belowN v n = 0 ↔ ∀ b ∈ bytesN 8 v, n ≤ b := by
  have hc := compl_land 8 v (by rw [pow8]; exact hv) (by rw [highs8]; exact h)
  rw [pow8, highs8] at hc
  have hl := (low_bytes 8 v).1 ((low_land 8 v).2 (by rw [highs8]; exact h))
  have hs := low_sub n hn (bytesN 8 v) hl
  rw [bytesN_length, val_bytesN 8 v (by rw [pow8]; exact hv), ones_mul] at hs
  rw [← hs]
  unfold belowN
  rw [Nat.and_assoc]
  have hc2 : (18446744073709551615 - v) &&& 9259542123273814144 = 9259542123273814144 := by
    have : 18446744073709551616 - 1 - v = 18446744073709551615 - v := by omega
    rw [this] at hc
    exact hc
  rw [hc2]
  have hp : (256 : Int) ^ 8 = 18446744073709551616 := by decide
  rw [hp]
  obtain ⟨X, hX⟩ : ∃ X : Nat, ((v : Int) - ((72340172838076673 * n : Nat) : Int)) % 18446744073709551616 = (X : Int) := ⟨_, (Int.toNat_of_nonneg (Int.emod_nonneg _ (by decide))).symm⟩
  rw [hX, Int.toNat_natCast, low_land 8 X, highs8]

/-- What plain(w) looks at. -/
def plainN (W : Nat) : Nat := ((belowN W 32 ||| belowN (W ^^^ 2459565876494606882) 1) ||| belowN (W ^^^ 6655295901103053916) 1) ||| (W &&& 9259542123273814144)

/-- A byte that a string holds as it stands. -/
def Good (b : Nat) : Prop := 32 ≤ b ∧ b ≤ 127 ∧ b ≠ 34 ∧ b ≠ 92

theorem or_zero (a b : Nat) : a ||| b = 0 ↔ a = 0 ∧ b = 0 := Nat.or_eq_zero_iff

theorem plain_exact (W : Nat) (hW : W < 18446744073709551616) : plainN W = 0 ↔ ∀ b ∈ bytesN 8 W, Good b := by
  unfold plainN
  rw [or_zero, or_zero, or_zero]
  have q1 : val (List.replicate 8 34) = 2459565876494606882 := by decide
  have q2 : val (List.replicate 8 92) = 6655295901103053916 := by decide
  have hbnd : ∀ c : Nat, c < 18446744073709551616 → W ^^^ c < 18446744073709551616 := fun c hc => Nat.xor_lt_two_pow (n := 64) hW hc
  constructor
  · rintro ⟨⟨⟨h1, h2⟩, h3⟩, h4⟩
    have x2 : (W ^^^ 2459565876494606882) &&& 9259542123273814144 = 0 := by rw [Nat.and_xor_distrib_right, h4]; decide
    have x3 : (W ^^^ 6655295901103053916) &&& 9259542123273814144 = 0 := by rw [Nat.and_xor_distrib_right, h4]; decide
    have r1 := (below_zero W 32 hW (by decide) h4).1 h1
    have r2 := (below_zero _ 1 (hbnd _ (by decide)) (by decide) x2).1 h2
    have r3 := (below_zero _ 1 (hbnd _ (by decide)) (by decide) x3).1 h3
    rw [← q1, xor_bytes 34 (by decide)] at r2
    rw [← q2, xor_bytes 92 (by decide)] at r3
    have r4 := (low_bytes 8 W).1 ((low_land 8 W).2 (by rw [highs8]; exact h4))
    intro b hb
    exact ⟨r1 b hb, by have := r4 b hb; omega, r2 b hb, r3 b hb⟩
  · intro h
    have h4 : W &&& 9259542123273814144 = 0 := by
      rw [← highs8]
      exact (low_land 8 W).1 ((low_bytes 8 W).2 (fun b hb => by have := (h b hb).2.1; omega))
    have x2 : (W ^^^ 2459565876494606882) &&& 9259542123273814144 = 0 := by rw [Nat.and_xor_distrib_right, h4]; decide
    have x3 : (W ^^^ 6655295901103053916) &&& 9259542123273814144 = 0 := by rw [Nat.and_xor_distrib_right, h4]; decide
    refine ⟨⟨⟨(below_zero W 32 hW (by decide) h4).2 (fun b hb => (h b hb).1), (below_zero _ 1 (hbnd _ (by decide)) (by decide) x2).2 ?_⟩, (below_zero _ 1 (hbnd _ (by decide)) (by decide) x3).2 ?_⟩, h4⟩
    · rw [← q1, xor_bytes 34 (by decide)]
      exact fun b hb => (h b hb).2.2.1
    · rw [← q2, xor_bytes 92 (by decide)]
      exact fun b hb => (h b hb).2.2.2

end Go.Proofs.Qxb6601667a
