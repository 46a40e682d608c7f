/- The walks of ZZcollationNames (5), zzBytes_.. (4) and the law (3). -/
import Derived.Test.Qxb6601474aNames
import Derived.Test.Qxb6601474aParser2
import Derived.Test.Qxb6601474aDatum
namespace Go.Proofs.Qxb6601474a
open Go.RowKit Go.Maps

/-- How ZZcollationNames ends. -/
def ZPost (w : World) (e : Ending) (w' : World) : Prop := e = .returned (.map (some (w.heap.size + 1 + 1))) ∧ ∃ N, Mid w N allN w'

theorem zz_any (w : World) : Calls Try.prog 5 #[] w (ZPost w) := by
  go_enter Try.func5, Try.ntmps5
  go_wp2_with (go_at_call 7; refine (names_any _).mono ?_; rintro e w2 ⟨rfl, N, HM⟩)
  go_ret
  exact ⟨rfl, N, HM⟩

theorem bytes_yes (s : ByteArray) (w : World) (h : s.size ≤ 1048576) : Calls Try.prog 4 #[.string s] w fun e w' => e = .returned (.bool true) ∧ w = w' := by
  go_enter Try.func4, Try.ntmps4
  go_wp2
  go_ret
  exact ⟨rfl, rfl⟩

theorem bytes_no (s : ByteArray) (w : World) (h : 1048576 < s.size) : Calls Try.prog 4 #[.string s] w fun e w' => e = .returned (.bool false) ∧ w = w' := by
  go_enter Try.func4, Try.ntmps4
  go_wp2
  go_ret
  exact ⟨rfl, rfl⟩

theorem model_b (s : ByteArray) (b : Bool) (hb : modelB comL langL mb4L locL s.toList = b) (w : World) (hs : s.size ≤ 65536) : Calls Try.prog 6 #[.string s] w fun e w' => e = .returned (.bool b) ∧ w = w' := by
  subst hb
  exact model_any s w hs

theorem key_name (s : ByteArray) (hs : s.size ≤ 65536) : keyOf Try.prog 9 (.string s) = some (.string s.toList) := by
  rw [ByteArray.toList_eq]
  exact WideMaps.keyOf_string_mk Try.underlying9 (by unfold maxLen; omega)

theorem main_far (s : ByteArray) (w : World) (h : 1048576 < s.size) : Calls Try.prog 3 #[.string s] w fun e w' => e = .returned (.bool true) ∧ Below w.heap.size w w' := by
  go_enter Try.func3, Try.ntmps3
  go_wp2_with (go_at_call 4; refine (bytes_no s _ h).mono ?_; rintro e w2 ⟨rfl, rfl⟩)
  go_ret
  exact ⟨rfl, Below.refl _ _⟩

theorem main_long (s : ByteArray) (w : World) (h : s.size ≤ 1048576) (h2 : 65536 < s.size) : Calls Try.prog 3 #[.string s] w fun e w' => e = .returned (.bool true) ∧ Below w.heap.size w w' := by
  go_enter Try.func3, Try.ntmps3
  go_wp2_with (go_at_call 4; refine (bytes_yes s _ h).mono ?_; rintro e w2 ⟨rfl, rfl⟩)
  go_ret
  exact ⟨rfl, Below.refl _ _⟩

set_option maxRecDepth 100000 in
set_option maxHeartbeats 1000000 in
theorem main_in (s : ByteArray) (w : World) (h : s.size ≤ 65536) : Calls Try.prog 3 #[.string s] w fun e w' => e = .returned (.bool true) ∧ Below w.heap.size w w' := by
  obtain ⟨c, hc⟩ : ∃ c, has (Dat allN) (.string s.toList) = c := ⟨_, rfl⟩
  have hmod : modelB comL langL mb4L locL s.toList = c := by
    rw [Bool.eq_iff_iff, model_mem, ← hc, dat_has]
    rfl
  have HC : Hid (has (Dat allN) (.string s.toList) = c) := hc
  have HMOD : Hid (modelB comL langL mb4L locL s.toList = c) := hmod
  clear hc hmod
  cases c
  · go_enter Try.func3, Try.ntmps3
    go_wp2_with (first
      | (go_at_call 4; refine (bytes_yes s _ (by omega)).mono ?_; rintro e w2 ⟨rfl, rfl⟩)
      | (go_at_call 5; refine (zz_any _).mono ?_; rintro e w2 ⟨rfl, N, HM⟩)
      | (go_at_call 6; refine (model_b s _ HMOD.out _ h).mono ?_; rintro e w3 ⟨rfl, rfl⟩)
      | (at_len; refine wpList_len_dat _ rfl _ rfl (w.heap.size + 1 + 1) N rfl HM.own ?_)
      | (at_lookup; refine wpList_lookup_dat _ rfl _ _ rfl (w.heap.size + 1 + 1) N allN rfl HM.own _ _ rfl (key_name s h) _ HC.out ?_))
    go_ret
    exact ⟨rfl, HM.bel⟩
  · go_enter Try.func3, Try.ntmps3
    go_wp2_with (first
      | (go_at_call 4; refine (bytes_yes s _ (by omega)).mono ?_; rintro e w2 ⟨rfl, rfl⟩)
      | (go_at_call 5; refine (zz_any _).mono ?_; rintro e w2 ⟨rfl, N, HM⟩)
      | (go_at_call 6; refine (model_b s _ HMOD.out _ h).mono ?_; rintro e w3 ⟨rfl, rfl⟩)
      | (at_len; refine wpList_len_dat _ rfl _ rfl (w.heap.size + 1 + 1) N rfl HM.own ?_)
      | (at_lookup; refine wpList_lookup_dat _ rfl _ _ rfl (w.heap.size + 1 + 1) N allN rfl HM.own _ _ rfl (key_name s h) _ HC.out ?_))
    go_ret
    exact ⟨rfl, HM.bel⟩

end Go.Proofs.Qxb6601474a
