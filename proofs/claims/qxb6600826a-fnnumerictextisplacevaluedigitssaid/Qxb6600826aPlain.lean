/- The plain mathematics of the numeric text: no Go in sight. -/
namespace Go.Proofs.Qxb6600826a

/-- How many digits stand before the point. -/
def wholeLen (n : Nat) (point : Int) : Nat := min point.toNat n

/-- k zero digits (none when k is not above 0). -/
def zer (k : Int) : List Int := List.replicate k.toNat 48

/-- What appendText appends for a number that is no NaN. -/
def txt (neg : Bool) (D : List Int) (point scale : Int) : List Int :=
  (if neg then [45] else []) ++ ((if wholeLen D.length point = 0 then [48] else []) ++ (D.take (wholeLen D.length point) ++ (zer (point - wholeLen D.length point) ++
    (if scale = 0 then [] else 46 :: (zer (-point) ++ (D.drop (wholeLen D.length point) ++ zer (scale - (-point).toNat - ((D.length - wholeLen D.length point : Nat) : Int))))))))

/-- What validNumeric answers. -/
def Valid (B : List Int) (point scale : Int) : Prop :=
  0 ≤ scale ∧ ((B = [] ∧ point = 0) ∨ (B ≠ [] ∧ B.head? ≠ some 48 ∧ B.getLast? ≠ some 48 ∧ (∀ b ∈ B, 48 ≤ b ∧ b ≤ 57) ∧ (B.length : Int) - point ≤ scale))


/-- A list of decimal digits. -/
def Digs (L : List Int) : Prop := ∀ b ∈ L, 48 ≤ b ∧ b ≤ 57

theorem Digs.append {L M : List Int} (h : Digs L) (k : Digs M) : Digs (L ++ M) := by
  intro b hb
  rcases List.mem_append.1 hb with hb | hb
  · exact h b hb
  · exact k b hb
theorem Digs.zer (k : Int) : Digs (zer k) := by
  intro b hb
  have := (List.mem_replicate.1 hb).2
  subst this
  decide
theorem Digs.take {L : List Int} (h : Digs L) (k : Nat) : Digs (L.take k) := fun b hb => h b (List.mem_of_mem_take hb)
theorem Digs.drop {L : List Int} (h : Digs L) (k : Nat) : Digs (L.drop k) := fun b hb => h b (List.mem_of_mem_drop hb)
theorem Digs.one (c : Int) (h : 48 ≤ c ∧ c ≤ 57) : Digs [c] := by
  intro b hb
  simp at hb; subst hb; exact h
theorem Digs.nil : Digs [] := fun b hb => by cases hb

theorem zer_length (k : Int) : (zer k).length = k.toNat := by simp [zer]
theorem zer_nonpos (k : Int) (h : k ≤ 0) : zer k = [] := by
  unfold zer
  have : k.toNat = 0 := by omega
  rw [this]; rfl
theorem zer_cons (k : Int) (h : 0 ≤ k) : 48 :: zer k = zer (1 + k) := by
  unfold zer
  have : (1 + k).toNat = k.toNat + 1 := by omega
  rw [this]; rfl

/-- What the text is made of: the sign, the integer part, the fraction; and what the two parts hold together. -/
structure Parts (neg : Bool) (B : List Int) (point scale : Int) (I F : List Int) (z t : Nat) : Prop where
  text : txt neg B point scale = (if neg then [45] else []) ++ (I ++ if scale = 0 then [] else 46 :: F)
  ne : I ≠ []
  dI : Digs I
  dF : Digs F
  frac : (F.length : Int) = scale
  lead : 1 < I.length → I.head? ≠ some 48
  all : I ++ F = List.replicate z 48 ++ (B ++ List.replicate t 48)
  pt : B ≠ [] → (I.length : Int) - z = point
  short : (I.length : Int) ≤ 1 ∨ (I.length : Int) ≤ point

theorem parts (neg : Bool) (B : List Int) (point scale : Int) (h : Valid B point scale) : ∃ I F z t, Parts neg B point scale I F z t := by
  obtain ⟨h0, ⟨rfl, rfl⟩ | ⟨hne, hh, hl, hd, hsc⟩⟩ := h
  · refine ⟨[48], zer scale, 1 + scale.toNat, 0, ?_, by simp, Digs.one 48 (by decide), Digs.zer _, by rw [zer_length]; omega, by simp, ?_, by simp, .inl (by simp)⟩
    · by_cases hs : scale = 0 <;> simp [txt, wholeLen, hs, zer]
    · simp [zer, ← List.replicate_succ, Nat.add_comm]
  · have hlen : 0 < B.length := List.length_pos_iff.2 hne
    by_cases hp : point ≤ 0
    · have hw : wholeLen B.length point = 0 := by unfold wholeLen; omega
      have hs : ¬ scale = 0 := by omega
      refine ⟨[48], zer (-point) ++ (B ++ zer (scale - (-point).toNat - ((B.length : Nat) : Int))), 1 + (-point).toNat, (scale - (-point).toNat - ((B.length : Nat) : Int)).toNat, ?_, by simp, Digs.one 48 (by decide), (Digs.zer _).append (Digs.append hd (Digs.zer _)), ?_, by simp, ?_, ?_, .inl (by simp)⟩
      · simp [txt, hw, hs, zer_nonpos _ hp]
      · simp only [List.length_append, zer_length]; omega
      · rw [Nat.add_comm 1, List.replicate_succ]; simp [zer]
      · intro _; simp only [List.length_singleton]; omega
    · obtain ⟨p, rfl⟩ : ∃ p : Nat, point = (p : Int) := ⟨point.toNat, by omega⟩
      by_cases hpl : p ≤ B.length
      · have hw : wholeLen B.length (p : Int) = p := by unfold wholeLen; omega
        have hp0 : ¬ p = 0 := by omega
        refine ⟨B.take p, B.drop p ++ zer (scale - ((B.length - p : Nat) : Int)), 0, (scale - ((B.length - p : Nat) : Int)).toNat, ?_, ?_, Digs.take hd p, (Digs.drop hd p).append (Digs.zer _), ?_, ?_, ?_, ?_, .inr ?_⟩
        · have e : zer ((p : Int) - (p : Nat)) = [] := zer_nonpos _ (by omega)
          have e2 : zer (-(p : Int)) = [] := zer_nonpos _ (by omega)
          have e3 : (-(p : Int)).toNat = 0 := by omega
          simp [txt, hw, hp0, e2, zer_nonpos 0 (Int.le_refl 0)]
        · intro e
          rcases List.take_eq_nil_iff.1 e with e | e
          · exact hp0 e
          · exact hne e
        · simp only [List.length_append, zer_length, List.length_drop]; omega
        · intro _
          rw [List.head?_take, if_neg hp0]
          exact hh
        · simp [zer, ← List.append_assoc, List.take_append_drop]
        · intro _; simp only [List.length_take]; omega
        · simp only [List.length_take]; omega
      · have hw : wholeLen B.length (p : Int) = B.length := by unfold wholeLen; omega
        have hb0 : ¬ B.length = 0 := by omega
        refine ⟨B ++ zer ((p : Int) - (B.length : Nat)), zer scale, 0, (p - B.length) + scale.toNat, ?_, ?_, Digs.append hd (Digs.zer _), Digs.zer _, ?_, ?_, ?_, ?_, .inr ?_⟩
        · have e2 : zer (-(p : Int)) = [] := zer_nonpos _ (by omega)
          simp [txt, hw, e2, hne]
        · simp [hne]
        · rw [zer_length]; omega
        · intro _
          rw [List.head?_append]
          cases hB : B.head? with
          | none => rw [List.head?_eq_none_iff] at hB; exact absurd hB hne
          | some c => rw [hB] at hh; simpa using hh
        · have e : ((p : Int) - (B.length : Nat)).toNat = p - B.length := by omega
          simp [zer, ← List.replicate_append_replicate, e]
        · intro _; simp only [List.length_append, zer_length]; omega
        · simp only [List.length_append, zer_length]; omega

end Go.Proofs.Qxb6600826a
