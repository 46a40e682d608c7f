/- What FnNumericTextReadsBack (8) needs of its callees. -/
import Derived.Test.Qxb6600826aCalls
namespace Go.Proofs.Qxb6600826a
open Go.RowKit

set_option maxHeartbeats 400000 in
theorem zb_any (neg : Bool) (D : ByteArray) (point scale : Int) (w : World) (hD : D.size ≤ 65536) :
    Calls Try.prog 25 #[.bool neg, .string D, .int .i64 point, .int .i64 scale] w fun e w' => e = .returned (.bool true) ∧ w' = w := by
  go_enter Try.func25, Try.ntmps25
  go_wp2
  go_ret
  exact ⟨rfl, rfl⟩

/-- What lies in the text's row: the sign, the digits before the point, the point, the digits behind it. -/
structure Lay (neg : Bool) (scale : Int) (I F : List Int) (w : World) (g n cap s : Nat) : Prop where
  hs : s = if neg then 1 else 0
  hcap : n ≤ cap
  cap63 : cap ≤ maxLen
  n0 : scale = 0 → n = s + I.length
  n1 : ¬ scale = 0 → n = s + I.length + 1 + F.length
  sign : neg = true → w.cell? ⟨g, 0, none⟩ = some (.int .u8 45)
  cI : ∀ k (h : k < I.length), w.cell? ⟨g, s + k, none⟩ = some (.int .u8 I[k])
  dot : ¬ scale = 0 → w.cell? ⟨g, s + I.length, none⟩ = some (.int .u8 46)
  cF : ¬ scale = 0 → ∀ k (h : k < F.length), w.cell? ⟨g, s + I.length + 1 + k, none⟩ = some (.int .u8 F[k])

theorem lay_of {neg : Bool} {B : List Int} {point scale : Int} {I F : List Int} {z t : Nat} (hP : Parts neg B point scale I F z t) {w : World} {v : Value} (ho : Own w v (txt neg B point scale)) :
    ∃ g n cap s, v = .slice (some ⟨g, 0, none⟩) n cap ∧ g < w.heap.size ∧ Lay neg scale I F w g n cap s := by
  rcases ho.form with ⟨_, e⟩ | ⟨g, cap, rfl, hc, h63, hg, hcell⟩
  · rw [hP.text] at e
    simp [hP.ne] at e
  · have hne : 0 < I.length := List.length_pos_iff.2 hP.ne
    have key : ∀ j x, (txt neg B point scale)[j]? = some x → w.cell? ⟨g, j, none⟩ = some (.int .u8 x) := by
      intro j x hx
      obtain ⟨hj, e⟩ := List.getElem?_eq_some_iff.1 hx
      rw [hcell j hj, e]
    rw [hP.text] at key hc
    refine ⟨g, (txt neg B point scale).length, cap, if neg then 1 else 0, rfl, hg, rfl, by rw [hP.text]; exact hc, h63, ?_, ?_, ?_, ?_, ?_, ?_⟩
    · intro h; rw [hP.text]; cases neg <;> simp [h] <;> omega
    · intro h; rw [hP.text]; cases neg <;> simp [h] <;> omega
    · rintro rfl; exact key 0 45 (by simp)
    · intro k hk
      apply key
      cases neg
      · simp [List.getElem?_append, hk]
      · simp [List.getElem?_append, hk, Nat.add_comm 1 k]
    · intro h
      apply key
      cases neg
      · simp [h]
      · simp [h, Nat.add_comm 1]
    · intro h k hk
      apply key
      cases neg
      · simp [h, List.getElem?_append]
        rw [if_neg (by omega)]
        simp [Nat.add_assoc, Nat.add_comm 1 k, hk]
      · have e1 : 1 + I.length + 1 + k = I.length + (k + 1) + 1 := by omega
        simp [h, e1, hk]

theorem zz_text (D : ByteArray) (point scale : Int) (neg : Bool) (w : World) (hD : D.size ≤ 65536) (h1 : -65536 ≤ point) (h2 : point ≤ 65536) (h4 : scale ≤ 65536) (hv : Valid (bytesOf D) point scale) (I F : List Int) (z t : Nat) (hP : Parts neg (bytesOf D) point scale I F z t) :
    Calls Try.prog 22 #[.bool false, .bool neg, .string D, .int .i64 point, .int .i64 scale, .slice none 0 0] w fun e w' => ∃ g n cap s, e = .returned (.slice (some ⟨g, 0, none⟩) n cap) ∧ g < w'.heap.size ∧ Lay neg scale I F w' g n cap s ∧ Below w.heap.size w w' := by
  refine (zz_any D point scale neg w (.slice none 0 0) [] (Own.nil w) (by simp) hD h1 h2 hv.1 h4 ?_).mono ?_
  · intro h0
    rcases hv.2 with ⟨_, h⟩ | ⟨hne, _⟩
    · exact h
    · exact absurd (List.eq_nil_of_length_eq_zero (by rw [bytesOf_length, h0])) hne
  · rintro e w' ⟨v', rfl, ho, hs⟩
    obtain ⟨g, n, cap, s, rfl, hg, hl⟩ := lay_of hP (by simpa using ho)
    exact ⟨g, n, cap, s, rfl, hg, hl, hs.below (Below.refl _ _) (Nat.le_refl _) (fun k hk => by cases hk)⟩

section
variable {P : Program} (w : World)

/-- Append where something is there behind it: the value written out. -/
theorem wpList_append_form {ops : Array Oper} {rest : List Oper} {o : Oper} {a : Act} {Q : Exit → Act → World → Prop} (hgd : o.guard = none) (s x : Operand) (t tx : TypeId)
    (ho : o.op = .call { callee := .builtin .append, args := #[s, x], argTypes := #[t, tx] }) (i : TypeInfo)
    (ht : P.underlying t = some (.slice 5)) (hi : P.info? 5 = some i) (hz : i.zero = some (.int .u8 0)) (hsize : i.size = 1) (hby : i.bytes = 1)
    (v : Value) (xs : List Int) (hv : a.eval s = v) (hown : Own w v xs) (xv : Value) (hxv : a.eval x = xv) (news : List Int) (hs : Src P 1 tx xv news.length (cellsOf8 news) w) (hb : xs.length + news.length ≤ 1099511627776)
    (N : Nat) (hN : xs.length + news.length = N) (hpos : 0 < N)
    (h : ∀ g cap w', Own w' (.slice (some ⟨g, 0, none⟩) N cap) (xs ++ news) → Step w v w' (.slice (some ⟨g, 0, none⟩) N cap) → g < w'.heap.size → N ≤ cap → cap ≤ 9223372036854775807 → (∀ j (hj : j < (xs ++ news).length), w'.cell? ⟨g, j, none⟩ = some (.int .u8 (xs ++ news)[j])) →
      wpList P ops Q rest (a.put o.dst (.slice (some ⟨g, 0, none⟩) N cap)) w') : wpList P ops Q (o :: rest) a w := by
  refine wpList_append_step w hgd s x t tx ho i ht hi hz hsize hby v xs hv hown xv hxv news hs hb ?_
  intro v' w' ho' hs'
  have hl : (xs ++ news).length = N := by rw [List.length_append]; exact hN
  rcases ho'.form with ⟨_, e⟩ | ⟨g, cap, rfl, hc, h63, hg, hcell⟩
  · rw [e] at hl; simp at hl; omega
  · rw [hl] at ho' hs' hc ⊢
    exact h g cap w' ho' hs' hg hc (by simpa [maxLen] using h63) hcell
end
end Go.Proofs.Qxb6600826a
