/- ZZNumericAppendText (22), validNumeric (21), the size guards: by contracts. -/
import Derived.Test.Qxb6600826aText
namespace Go.Proofs.Qxb6600826a
open Go.RowKit

theorem text_any (D : ByteArray) (point scale : Int) (neg : Bool) (w : World) (v : Value) (xs : List Int) (hown : Own w v xs) (hx : xs.length ≤ 100000) (hD : D.size ≤ 65536) (h1 : -65536 ≤ point) (h2 : point ≤ 65536)
    (h3 : 0 ≤ scale) (h4 : scale ≤ 65536) (h0 : D.size = 0 → point = 0) :
    Calls Try.prog 30 #[.agg #[.bool false, .bool neg, .string D, .int .i64 point, .int .i64 scale], v] w fun e w' => ∃ v', e = .returned v' ∧ Own w' v' (xs ++ txt neg (bytesOf D) point scale) ∧ Step w v w' v' := by
  rcases Int.lt_trichotomy point 0 with h | rfl | h
  · exact text_neg D point scale neg w v xs hown hx hD h1 h h3 h4
  · exact text_zero D scale neg w v xs hown hx hD h3 h4
  · obtain ⟨p, rfl⟩ : ∃ p : Nat, point = (p : Int) := ⟨point.toNat, by omega⟩
    by_cases hp : p ≤ D.size
    · exact text_in D p scale neg w v xs hown hx hD (by omega) hp h3 h4
    · exact text_over D p scale neg w v xs hown hx hD (by omega) (by omega) (by omega) h3 h4

set_option maxHeartbeats 400000 in
theorem zz_any (D : ByteArray) (point scale : Int) (neg : Bool) (w : World) (v : Value) (xs : List Int) (hown : Own w v xs) (hx : xs.length ≤ 100000) (hD : D.size ≤ 65536) (h1 : -65536 ≤ point) (h2 : point ≤ 65536)
    (h3 : 0 ≤ scale) (h4 : scale ≤ 65536) (h0 : D.size = 0 → point = 0) :
    Calls Try.prog 22 #[.bool false, .bool neg, .string D, .int .i64 point, .int .i64 scale, v] w fun e w' => ∃ v', e = .returned v' ∧ Own w' v' (xs ++ txt neg (bytesOf D) point scale) ∧ Step w v w' v' := by
  have H := text_any D point scale neg w v xs hown hx hD h1 h2 h3 h4 h0
  clear hown h0
  go_enter Try.func22, Try.ntmps22
  go_wp2_with (go_at_call 30; refine H.mono ?_; rintro e w2 ⟨v2, rfl, ho2, hs2⟩)
  go_ret
  exact ⟨_, rfl, ho2, hs2⟩

set_option maxHeartbeats 1000000 in
theorem text_nan (D : ByteArray) (point scale : Int) (neg : Bool) (w : World) (v : Value) (xs : List Int) (hown : Own w v xs) (hx : xs.length ≤ 100000) :
    Calls Try.prog 30 #[.agg #[.bool true, .bool neg, .string D, .int .i64 point, .int .i64 scale], v] w fun e w' => ∃ v', e = .returned v' ∧ Own w' v' (xs ++ [78, 97, 78]) ∧ Step w v w' v' := by
  obtain ⟨i0, hi, hz0, hz1, hz2⟩ := info_parts info5
  have ho := hown.alloc (.cells #[.bool true, .bool neg, .string D, .int .i64 point, .int .i64 scale] 44)
  have hst := Step.allocd w v (.cells #[.bool true, .bool neg, .string D, .int .i64 point, .int .i64 scale] 44)
  clear hown
  go_enter Try.func30, Try.ntmps30
  go_wp2_with (at_builtin; refine wpList_append_step _ rfl _ _ 27 9 rfl i0 Try.underlying27 hi hz0 hz1 hz2 _ _ rfl ho _ rfl _ (srcString _ Try.underlying9 ⟨#[78, 97, 78]⟩) (by show xs.length + 3 ≤ _; omega) ?_; intro v2 w2 ho2 hs2; replace hst := hst.trans hs2; replace ho := ho2; clear ho2 hs2)
  go_ret
  exact ⟨_, rfl, ho, hst⟩

set_option maxHeartbeats 400000 in
theorem zz_nan (D : ByteArray) (point scale : Int) (neg : Bool) (w : World) (v : Value) (xs : List Int) (hown : Own w v xs) (hx : xs.length ≤ 100000) :
    Calls Try.prog 22 #[.bool true, .bool neg, .string D, .int .i64 point, .int .i64 scale, v] w fun e w' => ∃ v', e = .returned v' ∧ Own w' v' (xs ++ [78, 97, 78]) ∧ Step w v w' v' := by
  have H := text_nan D point scale neg w v xs hown hx
  clear hown
  go_enter Try.func22, Try.ntmps22
  go_wp2_with (go_at_call 30; refine H.mono ?_; rintro e w2 ⟨v2, rfl, ho2, hs2⟩)
  go_ret
  exact ⟨_, rfl, ho2, hs2⟩

theorem bytes_get (D : ByteArray) (k : Nat) (h : k < D.size) : (bytesOf D)[k]? = some ((D[k]'h).toNat : Int) := by
  unfold bytesOf
  rw [List.getElem?_map]
  have hl : k < D.data.toList.length := by rw [Array.length_toList]; exact h
  rw [List.getElem?_eq_getElem hl]
  rfl

theorem bytes_take (D : ByteArray) (k : Nat) (h : k < D.size) : (bytesOf D).take (k + 1) = (bytesOf D).take k ++ [((D[k]'h).toNat : Int)] := by
  rw [List.take_add_one, bytes_get D k h]
  rfl

theorem valid_mk (D : ByteArray) (point scale : Int) (hp : 0 < D.size) (h3 : 0 ≤ scale) (ha : ∀ b ∈ (bytesOf D).take D.size, 48 ≤ b ∧ b ≤ 57) (h0 : (((D[0]'hp).toNat : Int) == 48) = false)
    (hl : (((D[D.size - 1]'(by omega)).toNat : Int) == 48) = false) (hs : (D.size : Int) - point ≤ scale) : Valid (bytesOf D) point scale := by
  rw [takeAll] at ha
  have hln := bytesOf_length D
  refine ⟨h3, .inr ⟨fun e => ?_, fun e => ?_, fun e => ?_, ha, by rw [hln]; exact hs⟩⟩
  · rw [e] at hln; simp at hln; omega
  · rw [List.head?_eq_getElem?, bytes_get D 0 hp] at e
    simp at e h0
    omega
  · rw [List.getLast?_eq_getElem?, hln, bytes_get D (D.size - 1) (by omega)] at e
    simp at e hl
    omega

/-- How validNumeric ends. -/
def VPost (D : ByteArray) (point scale : Int) (w : World) (e : Ending) (w' : World) : Prop := ∃ b : Bool, e = .returned (.bool b) ∧ w' = w ∧ (b = true → Valid (bytesOf D) point scale)

theorem all_snoc {B : List Int} {k : Nat} {c : Int} (h : B.take (k + 1) = B.take k ++ [c]) (ha : ∀ b ∈ B.take k, 48 ≤ b ∧ b ≤ 57) (hc : 48 ≤ c ∧ c ≤ 57) : ∀ b ∈ B.take (k + 1), 48 ≤ b ∧ b ≤ 57 := by
  intro b hb
  rw [h, List.mem_append] at hb
  rcases hb with hb | hb
  · exact ha b hb
  · simp at hb; subst hb; exact hc

set_option maxHeartbeats 1000000 in
theorem valid_any (D : ByteArray) (point scale : Int) (w : World) (hD : D.size ≤ 65536) (h1 : -65536 ≤ point) (h2 : point ≤ 65536) (h3 : 0 ≤ scale) (h4 : scale ≤ 65536) :
    Calls Try.prog 21 #[.string D, .int .i64 point, .int .i64 scale] w (VPost D point scale w) := by
  by_cases hz : D.size = 0
  · have hz' : ((D.size : Int) == 0) = true := by simp [hz]
    have hB : Hid (bytesOf D = []) := List.eq_nil_of_length_eq_zero (by rw [bytesOf_length, hz])
    go_enter Try.func21, Try.ntmps21
    go_wp2
    go_ret
    refine ⟨_, rfl, rfl, fun h => ⟨h3, .inl ⟨hB.out, by simpa using h⟩⟩⟩
  · have hz' : ((D.size : Int) == 0) = false := beq_eq_false_iff_ne.2 (by omega)
    have hp : 0 < D.size := by omega
    go_enter Try.func21, Try.ntmps21
    go_wp2
    · go_ret
      exact ⟨_, rfl, rfl, fun h => by cases h⟩
    · go_ret
      exact ⟨_, rfl, rfl, fun h => by cases h⟩
    · have ht : (((D[0]'hp).toNat : Int) == 48) = false ∧ (((D[D.size - 1]'(by omega)).toNat : Int) == 48) = false := by assumption
      have HT : Hid ((((D[0]'hp).toNat : Int) == 48) = false ∧ (((D[D.size - 1]'(by omega)).toNat : Int) == 48) = false) := ht
      clear ht
      go_loop [7] (fun i => ∃ k : Nat, k ≤ D.size ∧ i = .int .i64 k ∧ Hid (∀ b ∈ (bytesOf D).take k, 48 ≤ b ∧ b ≤ 57)) (fun i => D.size - (intOf i).toNat)
      case atStart => exact ⟨0, Nat.zero_le _, rfl, fun b hb => by simp at hb⟩
      case round =>
        obtain ⟨k, hk, rfl, hall⟩ := hrel
        by_cases hlt : k < D.size
        · have HS : Hid ((bytesOf D).take (k + 1) = (bytesOf D).take k ++ [((D[k]'hlt).toNat : Int)]) := bytes_take D k hlt
          go_wp2
          · go_ret
            exact ⟨_, rfl, rfl, fun h => by cases h⟩
          · have hc : 48 ≤ ((D[k]'hlt).toNat : Int) ∧ ((D[k]'hlt).toNat : Int) ≤ 57 := by assumption
            go_round
            case rel => exact ⟨k + 1, by omega, by go_num, all_snoc HS.out hall.out hc⟩
            case measure => simp [intOf]; omega
          · go_ret
            exact ⟨_, rfl, rfl, fun h => by cases h⟩
        · go_wp2
          go_ret
          obtain rfl : k = D.size := by omega
          exact ⟨_, rfl, rfl, fun h => valid_mk D point scale hp h3 hall.out HT.out.1 HT.out.2 (by simpa using h)⟩

end Go.Proofs.Qxb6600826a
