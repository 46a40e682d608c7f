/- The plain law of FnNumericTextIsPlaceValueDigits: the text is the model's. -/
import Derived.Test.Qxb6600826aModel
namespace Go.Proofs.Qxb6600826a

theorem run_get (B : List Int) (i : Int) (j : Nat) : ∀ m, (run B i m)[j]? = if j < m then some (digAt B (i + j)) else none
  | 0 => by simp [run]
  | m + 1 => by
    rw [run, List.getElem?_append, run_length, run_get B i j m]
    by_cases h : j < m
    · simp [h, Nat.lt_succ_of_lt h]
    · rw [if_neg h]
      by_cases h2 : j = m
      · subst h2; simp
      · rw [if_neg (by omega), List.getElem?_eq_none (by simp; omega)]

theorem digAt_get (B : List Int) (k : Nat) : digAt B (k : Int) = (B[k]?).getD 48 := by
  unfold digAt
  by_cases h : k < B.length
  · rw [if_pos ⟨by omega, by omega⟩, Int.toNat_natCast, List.getD_eq_getElem?_getD, List.getElem?_eq_getElem h]; rfl
  · rw [if_neg (by omega), List.getElem?_eq_none (by omega)]; rfl

theorem whole_run (B : List Int) (p : Nat) : B.take (min p B.length) ++ zer ((p : Int) - (min p B.length : Nat)) = run B 0 p := by
  apply List.ext_getElem?
  intro j
  have e : ((p : Int) - (min p B.length : Nat)).toNat = p - B.length := by omega
  rw [run_get, Int.zero_add, digAt_get, zer, e, List.getElem?_append, List.length_take, List.getElem?_take, List.getElem?_replicate]
  by_cases h1 : j < p
  · rw [if_pos h1]
    by_cases h2 : j < B.length
    · rw [if_pos (by omega), if_pos (by omega), List.getElem?_eq_getElem h2]; rfl
    · rw [if_neg (by omega), if_pos (by omega), List.getElem?_eq_none (by omega)]; rfl
  · rw [if_neg h1, if_neg (by omega), if_neg (by omega)]

theorem frac_pos (B : List Int) (p s : Nat) (h : B.length ≤ p + s) : B.drop (min p B.length) ++ zer ((s : Int) - ((B.length - min p B.length : Nat) : Int)) = run B (p : Int) s := by
  apply List.ext_getElem?
  intro j
  have e : ((s : Int) - ((B.length - min p B.length : Nat) : Int)).toNat = s - (B.length - p) := by omega
  have ej : (p : Int) + (j : Int) = ((p + j : Nat) : Int) := by omega
  rw [run_get, ej, digAt_get, zer, e, List.getElem?_append, List.length_drop, List.getElem?_drop, List.getElem?_replicate]
  by_cases h1 : j < s
  · rw [if_pos h1]
    by_cases h2 : p + j < B.length
    · have e3 : min p B.length + j = p + j := by omega
      rw [if_pos (by omega), e3, List.getElem?_eq_getElem h2]; rfl
    · rw [if_neg (by omega), if_pos (by omega), List.getElem?_eq_none (by omega)]; rfl
  · rw [if_neg h1, if_neg (by omega), if_neg (by omega)]

theorem frac_neg (B : List Int) (q s : Nat) (h : B.length + q ≤ s) : zer (q : Int) ++ (B ++ zer ((s : Int) - q - (B.length : Int))) = run B (-(q : Int)) s := by
  apply List.ext_getElem?
  intro j
  have e : ((s : Int) - q - (B.length : Int)).toNat = s - q - B.length := by omega
  rw [run_get, zer, zer, e, Int.toNat_natCast, List.getElem?_append, List.length_replicate, List.getElem?_replicate, List.getElem?_append, List.getElem?_replicate]
  by_cases h0 : j < q
  · rw [if_pos h0, if_pos h0, if_pos (by omega), digAt_out _ _ (by omega)]
  · rw [if_neg h0]
    have ej : -(q : Int) + (j : Int) = ((j - q : Nat) : Int) := by omega
    rw [ej, digAt_get]
    by_cases h1 : j - q < B.length
    · rw [if_pos h1, if_pos (by omega), List.getElem?_eq_getElem h1]; rfl
    · rw [if_neg h1, List.getElem?_eq_none (by omega : B.length ≤ j - q)]
      by_cases h2 : j < s
      · rw [if_pos (by omega), if_pos h2]; rfl
      · rw [if_neg (by omega), if_neg h2]

theorem txt_mdl (neg : Bool) (B : List Int) (point scale : Int) (h : Valid B point scale) : txt neg B point scale = mdl neg B point scale := by
  have hs := h.1
  have hlen : (B.length : Int) - point ≤ scale := by
    rcases h.2 with ⟨rfl, rfl⟩ | ⟨_, _, _, _, h⟩
    · simp; exact hs
    · exact h
  have hB0 : B.length = 0 → point = 0 := by
    rcases h.2 with ⟨_, h⟩ | ⟨hne, _⟩
    · exact fun _ => h
    · exact fun e => absurd (List.eq_nil_of_length_eq_zero e) hne
  unfold txt mdl wholeLen
  congr 1
  obtain ⟨s, rfl⟩ : ∃ s : Nat, scale = (s : Int) := ⟨scale.toNat, by omega⟩
  by_cases hp : point ≤ 0
  · have e0 : point.toNat = 0 := by omega
    obtain ⟨q, hq⟩ : ∃ q : Nat, point = -(q : Int) := ⟨(-point).toNat, by omega⟩
    have e1 : (-point).toNat = q := by omega
    have e2 : -point = (q : Int) := by omega
    rw [e0, if_pos hp, if_pos hp, Nat.zero_min, if_pos rfl, e1, e2, Int.toNat_natCast]
    have e3 : run B (point - 1) 1 = [48] := by
      show [] ++ [digAt B (point - 1 + ((0 : Nat) : Int))] = [48]
      rw [digAt_out B _ (by omega)]; rfl
    rw [e3, zer_nonpos _ (by omega), List.take_zero, List.drop_zero, Nat.sub_zero, hq, frac_neg B q s (by omega)]
    rfl
  · obtain ⟨p, rfl⟩ : ∃ p : Nat, point = (p : Int) := ⟨point.toNat, by omega⟩
    have e0 : ¬ min p B.length = 0 := by omega
    rw [Int.toNat_natCast, Int.toNat_natCast, if_neg hp, if_neg hp, if_neg e0, List.nil_append, ← List.append_assoc, whole_run]
    congr 1
    by_cases hs0 : (s : Int) = 0
    · rw [if_pos hs0, if_pos hs0]
    · have e4 : (-(p : Int)).toNat = 0 := by omega
      rw [if_neg hs0, if_neg hs0, zer_nonpos (-(p : Int)) (by omega), e4, List.nil_append]
      have e5 : (s : Int) - ((0 : Nat) : Int) = (s : Int) := by omega
      rw [e5, frac_pos B p s (by omega)]

theorem txt_length (neg : Bool) (B : List Int) (point scale : Int) (h : Valid B point scale) (h1 : point ≤ 65536) (h2 : scale ≤ 65536) : (txt neg B point scale).length ≤ 200000 := by
  obtain ⟨I, F, z, t, hP⟩ := parts neg B point scale h
  have := hP.short
  have := hP.frac
  rw [hP.text]
  cases neg <;> by_cases hs : scale = 0 <;> simp [hs] <;> omega

end Go.Proofs.Qxb6600826a
