/- The walks of isMb4OnlySuffix (10) and isCollationModel (6). -/
import Derived.Test.Qxb6601474aParser
namespace Go.Proofs.Qxb6601474a
open Go.RowKit

set_option maxHeartbeats 4000000 in
theorem only_any (s : ByteArray) (w : World) (hs : s.size ≤ 65536) : Calls Try.prog 10 #[.string s] w fun e w' => e = .returned (.bool (onlyB mb4L locL s.toList)) ∧ w = w' := by
  obtain ⟨b, hb⟩ : ∃ b, aiS.isSuffixOf s.toList = b := ⟨_, rfl⟩
  obtain ⟨c, hc⟩ : ∃ c, asS.isSuffixOf s.toList = c := ⟨_, rfl⟩
  have HB : Hid (aiS.isSuffixOf s.toList = b) := hb
  have HC : Hid (asS.isSuffixOf s.toList = c) := hc
  by_cases hbc : (b || c) = true
  · have hlen : 11 ≤ s.size := by
      rw [← list_size s]
      cases b
      · cases c
        · cases hbc
        · exact (List.isSuffixOf_iff_suffix.1 hc).length_le
      · exact (List.isSuffixOf_iff_suffix.1 hb).length_le
    have HE : Hid ((s.extract 0 (s.size - 11)).toList = s.toList.take (s.toList.length - 11)) := by
      show _ = _
      rw [extract_list, List.drop_zero, list_size]
    clear hb hc
    cases b
    · obtain rfl : c = true := by simpa using hbc
      clear hbc
      go_enter Try.func10, Try.ntmps10
      go_wp2_with (first | (go_at_call 11; refine (suf_b s _ aiS (by rfl) _ HB.out _ hs).mono ?_; rintro e w2 ⟨rfl, rfl⟩) | (go_at_call 11; refine (suf_b s _ asS (by rfl) _ HC.out _ hs).mono ?_; rintro e w2 ⟨rfl, rfl⟩) | (go_at_call 13; refine (loc_any _ _).mono ?_; rintro e w2 ⟨rfl, rfl⟩))
      all_goals
        go_ret
        refine ⟨ret_bool ?_, rfl⟩
        have hb := HB.out
        have hc := HC.out
        first | (simp_all [onlyB, mb4L]; done) | (rw [HE.out]; simp_all [onlyB, mb4L])
    · clear hbc
      go_enter Try.func10, Try.ntmps10
      go_wp2_with (first | (go_at_call 11; refine (suf_b s _ aiS (by rfl) _ HB.out _ hs).mono ?_; rintro e w2 ⟨rfl, rfl⟩) | (go_at_call 13; refine (loc_any _ _).mono ?_; rintro e w2 ⟨rfl, rfl⟩))
      all_goals
        go_ret
        refine ⟨ret_bool ?_, rfl⟩
        have hb := HB.out
        first | (simp_all [onlyB, mb4L]; done) | (rw [HE.out]; simp_all [onlyB, mb4L])
  · obtain ⟨rfl, rfl⟩ : b = false ∧ c = false := by cases b <;> cases c <;> simp_all
    clear hb hc hbc
    go_enter Try.func10, Try.ntmps10
    go_wp2_with (first | (go_at_call 11; refine (suf_b s _ aiS (by rfl) _ HB.out _ hs).mono ?_; rintro e w2 ⟨rfl, rfl⟩) | (go_at_call 11; refine (suf_b s _ asS (by rfl) _ HC.out _ hs).mono ?_; rintro e w2 ⟨rfl, rfl⟩))
    all_goals
      go_ret
      refine ⟨ret_bool ?_, rfl⟩
      have hb := HB.out
      have hc := HC.out
      simp_all [onlyB, mb4L]

theorem com_b (s : ByteArray) (l : Str) (hl : s.toList = l) (b : Bool) (hb : comB comL langL l = b) (w : World) (hs : s.size ≤ 65536) : Calls Try.prog 9 #[.string s] w fun e w' => e = .returned (.bool b) ∧ w = w' := by
  subst hl hb
  exact com_any s w hs

theorem only_b (s : ByteArray) (l : Str) (hl : s.toList = l) (w : World) (hs : s.size ≤ 65536) : Calls Try.prog 10 #[.string s] w fun e w' => e = .returned (.bool (onlyB mb4L locL l)) ∧ w = w' := by
  subst hl
  exact only_any s w hs

theorem drop_list (s : ByteArray) (k : Nat) : (s.extract k s.size).toList = s.toList.drop k := by
  rw [extract_list, ← list_size s, List.take_length]

theorem drop_size (s : ByteArray) (k : Nat) (h : s.size ≤ 65536) : (s.extract k s.size).size ≤ 65536 := by
  rw [ByteArray.size_extract]; omega

def p4 : Str := mb4 ++ us
def p3 : Str := mb3 ++ us
def p8 : Str := u8s ++ us

set_option maxHeartbeats 2000000 in
theorem model_any (s : ByteArray) (w : World) (hs : s.size ≤ 65536) : Calls Try.prog 6 #[.string s] w fun e w' => e = .returned (.bool (modelB comL langL mb4L locL s.toList)) ∧ w = w' := by
  obtain ⟨b4, h4⟩ : ∃ b, p4.isPrefixOf s.toList = b := ⟨_, rfl⟩
  obtain ⟨b3, h3⟩ : ∃ b, p3.isPrefixOf s.toList = b := ⟨_, rfl⟩
  obtain ⟨b8, h8⟩ : ∃ b, p8.isPrefixOf s.toList = b := ⟨_, rfl⟩
  have H4 : Hid (p4.isPrefixOf s.toList = b4) := h4
  have H3 : Hid (p3.isPrefixOf s.toList = b3) := h3
  have H8 : Hid (p8.isPrefixOf s.toList = b8) := h8
  cases b4
  · cases b3
    · cases b8
      · have e : modelB comL langL mb4L locL s.toList = false := by
          unfold modelB
          rw [show (mb4 ++ us).isPrefixOf s.toList = false from h4, show (mb3 ++ us).isPrefixOf s.toList = false from h3, show (u8s ++ us).isPrefixOf s.toList = false from h8]
          rfl
        rw [e]
        clear h4 h3 h8 e
        go_enter Try.func6, Try.ntmps6
        go_wp2_with (first | (go_at_call 8; refine (pre_b s _ p4 (by rfl) _ H4.out _).mono ?_; rintro e w2 ⟨rfl, rfl⟩) | (go_at_call 8; refine (pre_b s _ p3 (by rfl) _ H3.out _).mono ?_; rintro e w2 ⟨rfl, rfl⟩) | (go_at_call 8; refine (pre_b s _ p8 (by rfl) _ H8.out _).mono ?_; rintro e w2 ⟨rfl, rfl⟩))
        go_ret
        exact ⟨rfl, rfl⟩
      · have e : modelB comL langL mb4L locL s.toList = comB comL langL (s.toList.drop 5) := by
          unfold modelB
          rw [show (mb4 ++ us).isPrefixOf s.toList = false from h4, show (mb3 ++ us).isPrefixOf s.toList = false from h3, show (u8s ++ us).isPrefixOf s.toList = true from h8]
          rfl
        have hlen : 5 ≤ s.size := by
          rw [← list_size s]
          exact (List.isPrefixOf_iff_prefix.1 h8).length_le
        rw [e]
        clear h4 h3 h8 e
        go_enter Try.func6, Try.ntmps6
        go_wp2_with (first | (go_at_call 8; refine (pre_b s _ p4 (by rfl) _ H4.out _).mono ?_; rintro e w2 ⟨rfl, rfl⟩) | (go_at_call 8; refine (pre_b s _ p3 (by rfl) _ H3.out _).mono ?_; rintro e w2 ⟨rfl, rfl⟩) | (go_at_call 8; refine (pre_b s _ p8 (by rfl) _ H8.out _).mono ?_; rintro e w2 ⟨rfl, rfl⟩) | (go_at_call 9; refine (com_b _ (s.toList.drop 5) (drop_list s 5) _ rfl _ (drop_size s 5 hs)).mono ?_; rintro e w2 ⟨rfl, rfl⟩))
        go_ret
        exact ⟨rfl, rfl⟩
    · have e : modelB comL langL mb4L locL s.toList = comB comL langL (s.toList.drop 8) := by
        unfold modelB
        rw [show (mb4 ++ us).isPrefixOf s.toList = false from h4, show (mb3 ++ us).isPrefixOf s.toList = true from h3]
        rfl
      have hlen : 8 ≤ s.size := by
        rw [← list_size s]
        exact (List.isPrefixOf_iff_prefix.1 h3).length_le
      rw [e]
      clear h4 h3 h8 H8 e
      go_enter Try.func6, Try.ntmps6
      go_wp2_with (first | (go_at_call 8; refine (pre_b s _ p4 (by rfl) _ H4.out _).mono ?_; rintro e w2 ⟨rfl, rfl⟩) | (go_at_call 8; refine (pre_b s _ p3 (by rfl) _ H3.out _).mono ?_; rintro e w2 ⟨rfl, rfl⟩) | (go_at_call 9; refine (com_b _ (s.toList.drop 8) (drop_list s 8) _ rfl _ (drop_size s 8 hs)).mono ?_; rintro e w2 ⟨rfl, rfl⟩))
      go_ret
      exact ⟨rfl, rfl⟩
  · have e : modelB comL langL mb4L locL s.toList = (comB comL langL (s.toList.drop 8) || onlyB mb4L locL (s.toList.drop 8)) := by
      unfold modelB
      rw [show (mb4 ++ us).isPrefixOf s.toList = true from h4]
      rfl
    have hlen : 8 ≤ s.size := by
      rw [← list_size s]
      exact (List.isPrefixOf_iff_prefix.1 h4).length_le
    obtain ⟨c, hc⟩ : ∃ c, comB comL langL (s.toList.drop 8) = c := ⟨_, rfl⟩
    rw [e, hc]
    have HC : Hid (comB comL langL (s.toList.drop 8) = c) := hc
    clear h4 h3 h8 H8 H3 e hc
    cases c
    · go_enter Try.func6, Try.ntmps6
      go_wp2_with (first | (go_at_call 8; refine (pre_b s _ p4 (by rfl) _ H4.out _).mono ?_; rintro e w2 ⟨rfl, rfl⟩) | (go_at_call 9; refine (com_b _ (s.toList.drop 8) (drop_list s 8) _ HC.out _ (drop_size s 8 hs)).mono ?_; rintro e w2 ⟨rfl, rfl⟩) | (go_at_call 10; refine (only_b _ (s.toList.drop 8) (drop_list s 8) _ (drop_size s 8 hs)).mono ?_; rintro e w2 ⟨rfl, rfl⟩))
      go_ret
      exact ⟨rfl, rfl⟩
    · go_enter Try.func6, Try.ntmps6
      go_wp2_with (first | (go_at_call 8; refine (pre_b s _ p4 (by rfl) _ H4.out _).mono ?_; rintro e w2 ⟨rfl, rfl⟩) | (go_at_call 9; refine (com_b _ (s.toList.drop 8) (drop_list s 8) _ HC.out _ (drop_size s 8 hs)).mono ?_; rintro e w2 ⟨rfl, rfl⟩))
      go_ret
      exact ⟨rfl, rfl⟩

end Go.Proofs.Qxb6601474a
