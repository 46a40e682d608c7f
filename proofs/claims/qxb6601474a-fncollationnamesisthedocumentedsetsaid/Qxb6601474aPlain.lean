/- The plain mathematics of the collation names: no Go in sight. Strings are lists of bytes. -/
namespace Go.Proofs.Qxb6601474a

abbrev Str := List UInt8

def us : Str := [95]
def ciS : Str := [95, 99, 105]
def aiS : Str := [95, 48, 57, 48, 48, 95, 97, 105, 95, 99, 105]
def asS : Str := [95, 48, 57, 48, 48, 95, 97, 115, 95, 99, 115]
def mb4 : Str := [117, 116, 102, 56, 109, 98, 52]
def mb3 : Str := [117, 116, 102, 56, 109, 98, 51]
def u8s : Str := [117, 116, 102, 56]

section
variable (commons langs mb4s locs : List Str)

/-- What the first loop adds for a character set. -/
def setA (cs : Str) : List Str := commons.map (fun x => cs ++ us ++ x) ++ langs.map (fun l => cs ++ us ++ l ++ ciS)

/-- What the two last loops add. -/
def setB : List Str := mb4s.map (fun x => mb4 ++ us ++ x) ++ locs.flatMap (fun l => [mb4 ++ us ++ l ++ aiS, mb4 ++ us ++ l ++ asS])

def allNames : List Str := setA commons langs mb4 ++ (setA commons langs mb3 ++ (setA commons langs u8s ++ setB mb4s locs))

/-- The suffixes of every character set. -/
def comB (r : Str) : Bool := commons.contains r || (ciS.isSuffixOf r && langs.contains (r.take (r.length - 3)))

def onlyB (r : Str) : Bool := mb4s.contains r || ((aiS.isSuffixOf r || asS.isSuffixOf r) && locs.contains (r.take (r.length - 11)))

/-- The parser of the law. -/
def modelB (name : Str) : Bool :=
  if (mb4 ++ us).isPrefixOf name then comB commons langs (name.drop 8) || onlyB mb4s locs (name.drop 8)
  else if (mb3 ++ us).isPrefixOf name then comB commons langs (name.drop 8)
  else if (u8s ++ us).isPrefixOf name then comB commons langs (name.drop 5)
  else false

theorem suffix_cut {s r : Str} {n : Nat} (hn : s.length = n) (h : s.isSuffixOf r = true) : r.take (r.length - n) ++ s = r := by
  obtain ⟨t, rfl⟩ := List.isSuffixOf_iff_suffix.1 h
  subst hn
  simp

theorem comB_iff (r : Str) : comB commons langs r = true ↔ r ∈ commons ∨ ∃ l ∈ langs, r = l ++ ciS := by
  unfold comB
  rw [Bool.or_eq_true, Bool.and_eq_true, List.contains_iff_mem, List.contains_iff_mem]
  constructor
  · rintro (h | ⟨h1, h2⟩)
    · exact .inl h
    · exact .inr ⟨_, h2, (suffix_cut rfl h1).symm⟩
  · rintro (h | ⟨l, hl, rfl⟩)
    · exact .inl h
    · refine .inr ⟨List.isSuffixOf_iff_suffix.2 ⟨l, rfl⟩, ?_⟩
      have e : (l ++ ciS).length - 3 = l.length := by simp [ciS]
      rw [e, List.take_left]
      exact hl

theorem onlyB_iff (r : Str) : onlyB mb4s locs r = true ↔ r ∈ mb4s ∨ ∃ l ∈ locs, r = l ++ aiS ∨ r = l ++ asS := by
  unfold onlyB
  rw [Bool.or_eq_true, Bool.and_eq_true, Bool.or_eq_true, List.contains_iff_mem, List.contains_iff_mem]
  constructor
  · rintro (h | ⟨h1 | h1, h2⟩)
    · exact .inl h
    · exact .inr ⟨_, h2, .inl (suffix_cut rfl h1).symm⟩
    · exact .inr ⟨_, h2, .inr (suffix_cut rfl h1).symm⟩
  · rintro (h | ⟨l, hl, rfl | rfl⟩)
    · exact .inl h
    · refine .inr ⟨.inl (List.isSuffixOf_iff_suffix.2 ⟨l, rfl⟩), ?_⟩
      have e : (l ++ aiS).length - 11 = l.length := by simp [aiS]
      rw [e, List.take_left]
      exact hl
    · refine .inr ⟨.inr (List.isSuffixOf_iff_suffix.2 ⟨l, rfl⟩), ?_⟩
      have e : (l ++ asS).length - 11 = l.length := by simp [asS]
      rw [e, List.take_left]
      exact hl

theorem mem_setA (cs name : Str) : name ∈ setA commons langs cs ↔ ∃ r, name = cs ++ us ++ r ∧ comB commons langs r = true := by
  unfold setA
  rw [List.mem_append, List.mem_map, List.mem_map]
  constructor
  · rintro (⟨x, hx, rfl⟩ | ⟨l, hl, rfl⟩)
    · exact ⟨x, rfl, (comB_iff _ _ _).2 (.inl hx)⟩
    · exact ⟨l ++ ciS, by simp, (comB_iff _ _ _).2 (.inr ⟨l, hl, rfl⟩)⟩
  · rintro ⟨r, rfl, h⟩
    rcases (comB_iff _ _ _).1 h with h | ⟨l, hl, rfl⟩
    · exact .inl ⟨r, h, rfl⟩
    · exact .inr ⟨l, hl, by simp⟩

theorem mem_setB (name : Str) : name ∈ setB mb4s locs ↔ ∃ r, name = mb4 ++ us ++ r ∧ onlyB mb4s locs r = true := by
  unfold setB
  rw [List.mem_append, List.mem_map, List.mem_flatMap]
  constructor
  · rintro (⟨x, hx, rfl⟩ | ⟨l, hl, h⟩)
    · exact ⟨x, rfl, (onlyB_iff _ _ _).2 (.inl hx)⟩
    · simp only [List.mem_cons, List.not_mem_nil, or_false] at h
      rcases h with rfl | rfl
      · exact ⟨l ++ aiS, by simp, (onlyB_iff _ _ _).2 (.inr ⟨l, hl, .inl rfl⟩)⟩
      · exact ⟨l ++ asS, by simp, (onlyB_iff _ _ _).2 (.inr ⟨l, hl, .inr rfl⟩)⟩
  · rintro ⟨r, rfl, h⟩
    rcases (onlyB_iff _ _ _).1 h with h | ⟨l, hl, rfl | rfl⟩
    · exact .inl ⟨r, h, rfl⟩
    · exact .inr ⟨l, hl, by simp⟩
    · exact .inr ⟨l, hl, by simp⟩

theorem pre_iff (p name : Str) : p.isPrefixOf name = true ↔ ∃ r, name = p ++ r := by
  rw [List.isPrefixOf_iff_prefix]
  constructor
  · rintro ⟨r, rfl⟩; exact ⟨r, rfl⟩
  · rintro ⟨r, rfl⟩; exact ⟨r, rfl⟩

theorem ne43 (r r' : Str) : mb4 ++ us ++ r ≠ mb3 ++ us ++ r' := by
  intro h
  have := congrArg (fun l => l[6]?) h
  simp [mb4, mb3, us] at this

theorem ne48 (r r' : Str) : mb4 ++ us ++ r ≠ u8s ++ us ++ r' := by
  intro h
  have := congrArg (fun l => l[4]?) h
  simp [mb4, u8s, us] at this

theorem ne38 (r r' : Str) : mb3 ++ us ++ r ≠ u8s ++ us ++ r' := by
  intro h
  have := congrArg (fun l => l[4]?) h
  simp [mb3, u8s, us] at this

/-- THE PLAIN LAW: the parser accepts exactly the names that the loops lay. -/
theorem model_mem (name : Str) : modelB commons langs mb4s locs name = true ↔ name ∈ allNames commons langs mb4s locs := by
  unfold allNames
  rw [List.mem_append, List.mem_append, List.mem_append, mem_setA, mem_setA, mem_setA, mem_setB]
  unfold modelB
  by_cases h4 : (mb4 ++ us).isPrefixOf name = true
  · obtain ⟨r, rfl⟩ := (pre_iff _ _).1 h4
    rw [if_pos h4]
    have e : (mb4 ++ us ++ r).drop 8 = r := rfl
    rw [e, Bool.or_eq_true]
    constructor
    · rintro (h | h)
      · exact .inl ⟨r, rfl, h⟩
      · exact .inr (.inr (.inr ⟨r, rfl, h⟩))
    · rintro (⟨r', e, h⟩ | ⟨r', e, h⟩ | ⟨r', e, h⟩ | ⟨r', e, h⟩)
      · rw [List.append_cancel_left e]; exact .inl h
      · exact absurd e (ne43 _ _)
      · exact absurd e (ne48 _ _)
      · rw [List.append_cancel_left e]; exact .inr h
  · rw [if_neg h4]
    have n4 : ∀ r, name ≠ mb4 ++ us ++ r := fun r e => h4 ((pre_iff _ _).2 ⟨r, e⟩)
    by_cases h3 : (mb3 ++ us).isPrefixOf name = true
    · obtain ⟨r, rfl⟩ := (pre_iff _ _).1 h3
      rw [if_pos h3]
      have e : (mb3 ++ us ++ r).drop 8 = r := rfl
      rw [e]
      constructor
      · intro h; exact .inr (.inl ⟨r, rfl, h⟩)
      · rintro (⟨r', e, h⟩ | ⟨r', e, h⟩ | ⟨r', e, h⟩ | ⟨r', e, h⟩)
        · exact absurd e (n4 _)
        · rw [List.append_cancel_left e]; exact h
        · exact absurd e (ne38 _ _)
        · exact absurd e (n4 _)
    · rw [if_neg h3]
      have n3 : ∀ r, name ≠ mb3 ++ us ++ r := fun r e => h3 ((pre_iff _ _).2 ⟨r, e⟩)
      by_cases h8 : (u8s ++ us).isPrefixOf name = true
      · obtain ⟨r, rfl⟩ := (pre_iff _ _).1 h8
        rw [if_pos h8]
        have e : (u8s ++ us ++ r).drop 5 = r := rfl
        rw [e]
        constructor
        · intro h; exact .inr (.inr (.inl ⟨r, rfl, h⟩))
        · rintro (⟨r', e, h⟩ | ⟨r', e, h⟩ | ⟨r', e, h⟩ | ⟨r', e, h⟩)
          · exact absurd e (n4 _)
          · exact absurd e (n3 _)
          · rw [List.append_cancel_left e]; exact h
          · exact absurd e (n4 _)
      · rw [if_neg h8]
        have n8 : ∀ r, name ≠ u8s ++ us ++ r := fun r e => h8 ((pre_iff _ _).2 ⟨r, e⟩)
        constructor
        · intro h; cases h
        · rintro (⟨r', e, h⟩ | ⟨r', e, h⟩ | ⟨r', e, h⟩ | ⟨r', e, h⟩)
          · exact absurd e (n4 _)
          · exact absurd e (n3 _)
          · exact absurd e (n8 _)
          · exact absurd e (n4 _)
end

end Go.Proofs.Qxb6601474a
