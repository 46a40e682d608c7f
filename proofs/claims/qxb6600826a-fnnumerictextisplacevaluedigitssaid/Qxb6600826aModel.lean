/- The walk of numericModel (23). -/
import Derived.Test.Qxb6600826aClone
import Derived.Deep.DeepCutAuto
import Derived.Deep.CutBlock
namespace Go.Proofs.Qxb6600826a
open Go.RowKit

/-- The digits of indices i, i + 1, .., i + m - 1. -/
def run (B : List Int) (i : Int) : Nat → List Int
  | 0 => []
  | m + 1 => run B i m ++ [digAt B (i + m)]

theorem run_length (B : List Int) (i : Int) : ∀ m, (run B i m).length = m
  | 0 => rfl
  | m + 1 => by simp [run, run_length B i m]

/-- What numericModel writes. -/
def mdl (neg : Bool) (B : List Int) (point scale : Int) : List Int :=
  (if neg then [45] else []) ++ (run B (if point ≤ 0 then point - 1 else 0) (if point ≤ 0 then 1 else point.toNat) ++ (if scale = 0 then [] else 46 :: run B point scale.toNat))

theorem mdl_whole (B : List Int) (point T : Int) (hT : T = if point ≤ 0 then 0 else point - 1) : run B (if point ≤ 0 then point - 1 else 0) (if point ≤ 0 then 1 else point.toNat) = run B (point - 1 - T) (T + 1).toNat := by
  by_cases h : point ≤ 0
  · rw [if_pos h] at hT
    subst hT
    rw [if_pos h, if_pos h, Int.sub_zero]
    rfl
  · rw [if_neg h] at hT
    subst hT
    rw [if_neg h, if_neg h, Int.sub_self, Int.sub_add_cancel]

theorem mdl_pos (neg : Bool) (B : List Int) (point scale : Int) (hs : 0 < scale) (S : List Int) (hS : S = if neg then [45] else []) (T : Int) (hT : T = if point ≤ 0 then 0 else point - 1) (m : Nat) (hm : (m : Int) = scale) :
    mdl neg B point scale = S ++ (run B (point - 1 - T) (T + 1).toNat ++ 46 :: run B point m) := by
  unfold mdl
  rw [mdl_whole B point T hT, ← hS, if_neg (by omega), ← hm, Int.toNat_natCast]

theorem mdl_zero (neg : Bool) (B : List Int) (point scale : Int) (hs : scale = 0) (S : List Int) (hS : S = if neg then [45] else []) (T : Int) (hT : T = if point ≤ 0 then 0 else point - 1) :
    mdl neg B point scale = S ++ run B (point - 1 - T) (T + 1).toNat := by
  unfold mdl
  rw [mdl_whole B point T hT, ← hS, if_pos hs, List.append_nil]

set_option maxHeartbeats 1000000 in
theorem model_any (neg : Bool) (D : ByteArray) (point scale : Int) (w : World) (hD : D.size ≤ 65536) (h1 : -65536 ≤ point) (h2 : point ≤ 65536) (h3 : 0 ≤ scale) (h4 : scale ≤ 65536) :
    Calls Try.prog 23 #[.bool neg, .string D, .int .i64 point, .int .i64 scale] w (Makes w (mdl neg (bytesOf D) point scale)) := by
  obtain ⟨i0, hi, hz0, hz1, hz2⟩ := info_parts info5
  go_enter Try.func23, Try.ntmps23
  go_upto_if 14 with (at_make; refine wpList_make_own _ rfl _ _ 27 rfl 0 5 i0 (.int .u8 0) 1 Try.underlying27 hi hz0 hz1 _ _ _ 16 rfl rfl rfl (by rw [hz2]; omega) (by unfold maxLen; omega) (Nat.zero_le _) ?_; intro w4 hown4 hgrow4)
  have hs4 : Step w (.slice none 0 0) w4 (.slice (some ⟨w.heap.size, 0, none⟩) 0 16) := ⟨hgrow4, .inr ⟨_, rfl, Nat.le_refl _⟩⟩
  have ho4 : Own w4 (.slice (some ⟨w.heap.size, 0, none⟩) 0 16) [] := hown4
  clear hown4 hgrow4
  obtain ⟨S, hS⟩ : ∃ S : List Int, S = if neg then [45] else [] := ⟨_, rfl⟩
  have HS : Hid (S = if neg then [45] else []) := hS
  have hSl : S.length ≤ 1 := by rw [hS]; split <;> simp
  clear hS
  go_cut [9] (fun v wx => Hid (Own wx v S) ∧ Hid (Step w (.slice none 0 0) wx v))
  case first =>
    as_aux_lemma =>
      cases neg
      · go_wp2
        go_meet
        case rel => exact ⟨Own.cast ho4 HS.out, hs4⟩
      · go_wp2_with (at_builtin; refine wpList_append_step _ rfl _ _ 27 27 rfl i0 Try.underlying27 hi hz0 hz1 hz2 (.slice (some ⟨w.heap.size, 0, none⟩) 0 16) [] rfl (ho4.alloc _) _ rfl [45] (srcOne _ 27 45 Try.underlying27 1 _ rfl) (by simp) ?_; intro v5 w5 ho5 hs5)
        go_meet
        case rel => exact ⟨Own.cast ho5 HS.out, (hs4.alloc _).trans hs5⟩
  case rest =>
    obtain ⟨ho, hst⟩ := hcut
    clear ho4 hs4
    obtain ⟨T, hT⟩ : ∃ T : Int, T = if point ≤ 0 then 0 else point - 1 := ⟨_, rfl⟩
    have HT : Hid (T = if point ≤ 0 then 0 else point - 1) := hT
    have hT0 : 0 ≤ T := by rw [hT]; split <;> omega
    have hT1 : T ≤ 65535 := by rw [hT]; split <;> omega
    clear hT
    obtain ⟨wd, hwd⟩ : ∃ wd, wd = wc := ⟨_, rfl⟩
    subst hwd
    go_upto_if 21 with fail
    go_cut [10] (fun t wx => t = .int .i64 T ∧ wd = wx)
    case first =>
      as_aux_lemma =>
        by_cases hp : point ≤ 0
        · have eT : T = 0 := by rw [HT.out, if_pos hp]
          have ET : Hid (T = 0) := eT
          clear eT
          go_wp2
          go_meet
          case rel => exact ⟨by rw [ET.out], rfl⟩
        · have eT : T = point - 1 := by rw [HT.out, if_neg hp]
          have ET : Hid (T = point - 1) := eT
          clear eT
          go_wp2
          go_meet
          case rel => exact ⟨by rw [ET.out], rfl⟩
    case rest =>
      obtain ⟨rfl, rfl⟩ := hcut
      go_upto_block 0 with fail
      go_cut [9, 11] (fun v _ wx => Hid (Own wx v (S ++ run (bytesOf D) (point - 1 - T) (T + 1).toNat)) ∧ Hid (Step w (.slice none 0 0) wx v))
      case first =>
        as_aux_lemma =>
          go_wp2_with fail
          go_loopw [9, 11] (fun v e wr => ∃ m : Nat, (m : Int) ≤ T + 1 ∧ e = .int .i64 (T - m) ∧ Hid (Own wr v (S ++ run (bytesOf D) (point - 1 - T) m)) ∧ Hid (Step w (.slice none 0 0) wr v)) (fun _ e _ => (intOf e + 1).toNat)
          case atStart => exact ⟨0, by omega, by go_num, Own.cast ho.out (by simp [run]), hst⟩
          case round =>
            obtain ⟨m, hm, rfl, hor, hstr⟩ := hrel
            have hml : m ≤ 65536 := by omega
            by_cases hlt : (m : Int) ≤ T
            · go_wp2_with (first | (go_at_call 31; refine (digit_any _ _ _ _ hD h1 h2 (by omega) (by omega)).mono ?_; rintro e w2 ⟨rfl, rfl⟩) | (at_builtin; refine wpList_append_step _ rfl _ _ 27 27 rfl i0 Try.underlying27 hi hz0 hz1 hz2 _ _ rfl (hor.out.alloc _) _ rfl [_] (srcOne _ 27 _ Try.underlying27 1 _ rfl) (by simp [run_length]; omega) ?_; intro v5 w5 ho5 hs5))
              go_roundw
              case rel => exact ⟨m + 1, by omega, by go_num, Own.cast ho5 (by simp [run]; congr 1; omega), (hstr.out.alloc _).trans hs5⟩
              case measure => simp [intOf]; omega
            · go_wp2
              go_meet
              case rel => exact ⟨Own.cast hor.out (by congr 2; omega), hstr⟩
      case rest =>
        obtain ⟨ho1, hst1⟩ := hcut
        have hTl : (T + 1).toNat ≤ 65536 := by omega
        by_cases hs0 : 0 < scale
        · go_wp2_with (at_builtin; refine wpList_append_step _ rfl _ _ 27 27 rfl i0 Try.underlying27 hi hz0 hz1 hz2 _ _ rfl (ho1.out.alloc _) _ rfl [46] (srcOne _ 27 46 Try.underlying27 1 _ rfl) (by simp [run_length]; omega) ?_; intro v5 w5 ho5 hs5)
          have ho6 : Hid (Own w5 v5 (S ++ (run (bytesOf D) (point - 1 - T) (T + 1).toNat ++ [46]))) := Own.cast ho5 (by simp)
          have hs6 : Hid (Step w (.slice none 0 0) w5 v5) := (hst1.out.alloc _).trans hs5
          clear ho5 hs5 ho1 hst1 ho hst
          go_loopw [9, 12] (fun v e wr => ∃ m : Nat, (m : Int) ≤ scale ∧ e = .int .i64 (-1 - m) ∧ Hid (Own wr v (S ++ (run (bytesOf D) (point - 1 - T) (T + 1).toNat ++ 46 :: run (bytesOf D) point m))) ∧ Hid (Step w (.slice none 0 0) wr v)) (fun _ e _ => (scale + 1 + intOf e).toNat)
          case atStart => exact ⟨0, by omega, by go_num, ho6, hs6⟩
          case round =>
            obtain ⟨m, hm, rfl, hor, hstr⟩ := hrel
            have hml : m ≤ 65536 := by omega
            by_cases hlt : (m : Int) < scale
            · go_wp2_with (first | (go_at_call 31; refine (digit_any _ _ _ _ hD h1 h2 (by omega) (by omega)).mono ?_; rintro e w2 ⟨rfl, rfl⟩) | (at_builtin; refine wpList_append_step _ rfl _ _ 27 27 rfl i0 Try.underlying27 hi hz0 hz1 hz2 _ _ rfl (hor.out.alloc _) _ rfl [_] (srcOne _ 27 _ Try.underlying27 1 _ rfl) (by simp [run_length]; omega) ?_; intro v7 w7 ho7 hs7))
              go_roundw
              case rel => exact ⟨m + 1, by omega, by go_num, Own.cast ho7 (by simp [run]; congr 1; omega), (hstr.out.alloc _).trans hs7⟩
              case measure => simp [intOf]; omega
            · go_wp2
              go_ret
              exact ⟨_, rfl, Own.cast hor.out (mdl_pos neg _ point scale hs0 S HS.out T HT.out m (by omega)), hstr.out⟩
        · have es : Hid (scale = 0) := by show scale = 0; omega
          go_wp2
          go_ret
          exact ⟨_, rfl, Own.cast ho1.out (mdl_zero neg _ point scale es.out S HS.out T HT.out), hst1.out⟩

end Go.Proofs.Qxb6600826a
