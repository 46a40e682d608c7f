/- The lists of the program's text, and the walks of the law's parser: hasPrefixB1 (8), hasSuffixB1 (11), isCollationLanguage (12), isCollationLocale (13), isCommonCollationSuffix (9), isMb4OnlySuffix (10), isCollationModel (6). -/
import Derived.Test.Qxb6601474aChecked
import Derived.Test.Qxb6601474aPlain
import Derived.WalkKit
import Derived.WalkLawsBesides
import Derived.WalkSpells
import Derived.KernelRfl
import Derived.BigQuiet
import Derived.Deep.QuietTactic
namespace Go.Proofs.Qxb6601474a
open Go.RowKit

def langL : List Str := [[105, 99, 101, 108, 97, 110, 100, 105, 99], [108, 97, 116, 118, 105, 97, 110], [114, 111, 109, 97, 110, 105, 97, 110], [115, 108, 111, 118, 101, 110, 105, 97, 110], [112, 111, 108, 105, 115, 104], [101, 115, 116, 111, 110, 105, 97, 110], [115, 112, 97, 110, 105, 115, 104], [115, 119, 101, 100, 105, 115, 104], [116, 117, 114, 107, 105, 115, 104], [99, 122, 101, 99, 104], [100, 97, 110, 105, 115, 104], [108, 105, 116, 104, 117, 97, 110, 105, 97, 110], [115, 108, 111, 118, 97, 107], [115, 112, 97, 110, 105, 115, 104, 50], [114, 111, 109, 97, 110], [112, 101, 114, 115, 105, 97, 110], [101, 115, 112, 101, 114, 97, 110, 116, 111], [104, 117, 110, 103, 97, 114, 105, 97, 110], [115, 105, 110, 104, 97, 108, 97], [103, 101, 114, 109, 97, 110, 50], [99, 114, 111, 97, 116, 105, 97, 110], [118, 105, 101, 116, 110, 97, 109, 101, 115, 101]]
def locL : List Str := [[100, 101, 95, 112, 98], [105, 115], [108, 118], [114, 111], [115, 108], [112, 108], [101, 116], [101, 115], [115, 118], [116, 114], [99, 115], [100, 97], [108, 116], [115, 107], [101, 115, 95, 116, 114, 97, 100], [108, 97], [101, 111], [104, 117], [104, 114], [118, 105], [114, 117], [110, 98], [110, 110], [115, 114, 95, 108, 97, 116, 110], [98, 115], [98, 103], [103, 108], [109, 110]]
def comL : List Str := [[103, 101, 110, 101, 114, 97, 108, 95, 99, 105], [98, 105, 110], [117, 110, 105, 99, 111, 100, 101, 95, 99, 105], [117, 110, 105, 99, 111, 100, 101, 95, 53, 50, 48, 95, 99, 105]]
def mb4L : List Str := [[48, 57, 48, 48, 95, 97, 105, 95, 99, 105], [48, 57, 48, 48, 95, 97, 115, 95, 99, 105], [48, 57, 48, 48, 95, 97, 115, 95, 99, 115], [48, 57, 48, 48, 95, 98, 105, 110], [106, 97, 95, 48, 57, 48, 48, 95, 97, 115, 95, 99, 115], [106, 97, 95, 48, 57, 48, 48, 95, 97, 115, 95, 99, 115, 95, 107, 115], [122, 104, 95, 48, 57, 48, 48, 95, 97, 115, 95, 99, 115]]

theorem ret_bool {a b : Bool} (h : a = b) : Ending.returned (.bool a) = .returned (.bool b) := by rw [h]

set_option maxHeartbeats 2000000 in
theorem lang_any (l : ByteArray) (w : World) : Calls Try.prog 12 #[.string l] w fun e w' => e = .returned (.bool (langL.contains l.toList)) ∧ w = w' := by
  go_enter Try.func12, Try.ntmps12
  go_wp2
  all_goals
    go_ret
    refine ⟨ret_bool ?_, rfl⟩
    simp_all [langL]

set_option maxHeartbeats 4000000 in
theorem loc_any (l : ByteArray) (w : World) : Calls Try.prog 13 #[.string l] w fun e w' => e = .returned (.bool (locL.contains l.toList)) ∧ w = w' := by
  go_enter Try.func13, Try.ntmps13
  go_wp2
  all_goals
    go_ret
    refine ⟨ret_bool ?_, rfl⟩
    simp_all [locL]

theorem list_size (s : ByteArray) : s.toList.length = s.size := by rw [ByteArray.toList_eq, Array.length_toList]; rfl

theorem extract_list (s : ByteArray) (a b : Nat) : (s.extract a b).toList = (s.toList.take b).drop a := by
  rw [ByteArray.toList_eq, ByteArray.toList_eq, ByteArray.data_extract, Array.toList_extract]
  simp [List.drop_take]

theorem pre_eq (s p : ByteArray) : ((s.extract 0 p.size).toList == p.toList) = p.toList.isPrefixOf s.toList := by
  rw [Bool.eq_iff_iff, beq_iff_eq, extract_list, List.drop_zero, List.isPrefixOf_iff_prefix]
  constructor
  · intro e; rw [← e]; exact List.take_prefix _ _
  · rintro ⟨t, e⟩
    rw [← e, ← list_size p, List.take_left]

theorem pre_no (s p : ByteArray) (h : ¬ p.size ≤ s.size) : false = p.toList.isPrefixOf s.toList := by
  symm
  rw [Bool.eq_false_iff]
  intro e
  have := (List.isPrefixOf_iff_prefix.1 e).length_le
  rw [list_size, list_size] at this
  exact h this

theorem suf_eq (s p : ByteArray) : ((s.extract (s.size - p.size) s.size).toList == p.toList) = p.toList.isSuffixOf s.toList := by
  rw [Bool.eq_iff_iff, beq_iff_eq, extract_list, ← list_size s, List.take_length, List.isSuffixOf_iff_suffix]
  constructor
  · intro e; rw [← e]; exact List.drop_suffix _ _
  · rintro ⟨t, e⟩
    rw [← e, ← list_size p]
    simp

theorem suf_no (s p : ByteArray) (h : ¬ p.size ≤ s.size) : false = p.toList.isSuffixOf s.toList := by
  symm
  rw [Bool.eq_false_iff]
  intro e
  have := (List.isSuffixOf_iff_suffix.1 e).length_le
  rw [list_size, list_size] at this
  exact h this

set_option maxHeartbeats 400000 in
theorem pre_any (s p : ByteArray) (w : World) : Calls Try.prog 8 #[.string s, .string p] w fun e w' => e = .returned (.bool (p.toList.isPrefixOf s.toList)) ∧ w = w' := by
  by_cases h : p.size ≤ s.size
  · go_enter Try.func8, Try.ntmps8
    go_wp2
    go_ret
    exact ⟨ret_bool (pre_eq s p), rfl⟩
  · go_enter Try.func8, Try.ntmps8
    go_wp2
    go_ret
    exact ⟨ret_bool (pre_no s p h), rfl⟩

set_option maxHeartbeats 400000 in
theorem suf_any (s p : ByteArray) (w : World) (_hs : s.size ≤ 65536) : Calls Try.prog 11 #[.string s, .string p] w fun e w' => e = .returned (.bool (p.toList.isSuffixOf s.toList)) ∧ w = w' := by
  by_cases h : p.size ≤ s.size
  · go_enter Try.func11, Try.ntmps11
    go_wp2
    go_ret
    exact ⟨ret_bool (suf_eq s p), rfl⟩
  · go_enter Try.func11, Try.ntmps11
    go_wp2
    go_ret
    exact ⟨ret_bool (suf_no s p h), rfl⟩

theorem suf_b (s p : ByteArray) (ps : Str) (hps : p.data.toList = ps) (b : Bool) (hb : ps.isSuffixOf s.toList = b) (w : World) (hs : s.size ≤ 65536) : Calls Try.prog 11 #[.string s, .string p] w fun e w' => e = .returned (.bool b) ∧ w = w' := by
  subst hb hps
  rw [← ByteArray.toList_eq]
  exact suf_any s p w hs

theorem pre_b (s p : ByteArray) (ps : Str) (hps : p.data.toList = ps) (b : Bool) (hb : ps.isPrefixOf s.toList = b) (w : World) : Calls Try.prog 8 #[.string s, .string p] w fun e w' => e = .returned (.bool b) ∧ w = w' := by
  subst hb hps
  rw [← ByteArray.toList_eq]
  exact pre_any s p w

set_option maxHeartbeats 2000000 in
theorem com_any (s : ByteArray) (w : World) (hs : s.size ≤ 65536) : Calls Try.prog 9 #[.string s] w fun e w' => e = .returned (.bool (comB comL langL s.toList)) ∧ w = w' := by
  obtain ⟨b, hb⟩ : ∃ b, ciS.isSuffixOf s.toList = b := ⟨_, rfl⟩
  cases b
  · have HB : Hid (ciS.isSuffixOf s.toList = false) := hb
    clear hb
    go_enter Try.func9, Try.ntmps9
    go_wp2_with (go_at_call 11; refine (suf_b s _ ciS rfl false HB.out _ hs).mono ?_; rintro e w2 ⟨rfl, rfl⟩)
    all_goals
      go_ret
      refine ⟨ret_bool ?_, rfl⟩
      have hb := HB.out
      simp_all [comB, comL]
  · have HB : Hid (ciS.isSuffixOf s.toList = true) := hb
    have hlen : 3 ≤ s.size := by
      have := (List.isSuffixOf_iff_suffix.1 hb).length_le
      rw [list_size] at this
      exact this
    have HE : Hid ((s.extract 0 (s.size - 3)).toList = s.toList.take (s.toList.length - 3)) := by
      show _ = _
      rw [extract_list, List.drop_zero, list_size]
    clear hb
    go_enter Try.func9, Try.ntmps9
    go_wp2_with (first | (go_at_call 11; refine (suf_b s _ ciS rfl true HB.out _ hs).mono ?_; rintro e w2 ⟨rfl, rfl⟩) | (go_at_call 12; refine (lang_any _ _).mono ?_; rintro e w2 ⟨rfl, rfl⟩))
    all_goals
      go_ret
      refine ⟨ret_bool ?_, rfl⟩
      have hb := HB.out
      first | (simp_all [comB, comL]; done) | (rw [HE.out]; simp_all [comB, comL])

end Go.Proofs.Qxb6601474a
