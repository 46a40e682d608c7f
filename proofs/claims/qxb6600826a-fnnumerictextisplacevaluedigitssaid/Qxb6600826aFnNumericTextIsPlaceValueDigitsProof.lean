/- The proof of 'Rows.FnNumericTextIsPlaceValueDigitsSaid': the frame is the shell's; the walk is made of the contracts in Qxb6600826aPlaceWalk. -/
import Derived.Test.Qxb6600826aRows
import Derived.Test.Qxb6600826aPlaceWalk
import Derived.WalkKit
import Derived.ProofKit
import Derived.OpenShut
import Derived.ShutString
import Derived.ChangeOld
import Derived.Below
namespace Go.Proofs.Qxb6600826a.fnNumericTextIsPlaceValueDigits
open Go.ChangeShapes Go.WideShapes Go.ChangeAt Go.RowKit
open Go.ChangeMaps (open_string shut_string)
set_option linter.unusedVariables false

theorem own : ownKnob Try.prog.godebug = none := by kernel_rfl
theorem laidOut : laidOutB Try.prog = true := by kernel_rfl

/-- WHAT THE WALK IS TOLD OF A SLICE OF INTEGERS THAT CAME IN: it is nil; or it leads to a row of 'cap' cells, the numbers 'zs' (the first 'len' are its elements, the rest its spare room), each fitting its kind. -/
def IsRow (k : IntKind) (w : World) (a : Option Addr) (len cap : Nat) (zs : List Int) : Prop :=
  (a = none ∧ len = 0 ∧ cap = 0 ∧ zs = []) ∨
  ∃ x, a = some x ∧ len ≤ cap ∧ cap ≤ maxLen ∧ zs.length = cap ∧ (∀ i, i < zs.length → w.cell? (x.add i) = some (.int k (zs.getD i 0))) ∧ ∀ n ∈ zs, (Lit.int k n).wf = true

theorem clone_row {w : World} {a : Option Addr} {len cap : Nat} {zs : List Int} (h : IsRow .u8 w a len cap zs) (hl : len ≤ 65536) : ∃ bs : List Int, bs.length = len ∧ Calls Try.prog 17 #[.slice a len cap] w (Makes w bs) := by
  rcases h with ⟨rfl, rfl, rfl, rfl⟩ | ⟨x, rfl, hlc, _, hz, hcell, _⟩
  · exact ⟨[], rfl, clone_nil w⟩
  · have hln : (zs.take len).length = len := by simp; omega
    refine ⟨zs.take len, hln, clone_at w x len cap (zs.take len) hln (by omega) (fun j hj => ?_)⟩
    rw [hcell j (by omega)]
    simp [List.getD, List.getElem?_eq_getElem (show j < zs.length by omega)]

set_option maxRecDepth 100000 in
set_option maxHeartbeats 1000000 in
theorem place_long (a0 a1 : Bool) (a2 : ByteArray) (a3 a4 : Int) (a5 : Option Addr) (len5 cap5 : Nat) (w : World) (h2 : a2.size ≤ 9223372036854775807) (h5 : len5 ≤ 9223372036854775807) (h : 65536 < a2.size ∨ 65536 < len5) :
    Calls Try.prog 7 #[.bool a0, .bool a1, .string a2, .int .i64 a3, .int .i64 a4, .slice a5 len5 cap5] w fun e w' => e = .returned (.bool true) ∧ Below w.heap.size w w' := by
  by_cases hD : 65536 < a2.size
  · clear h
    go_enter Try.func7, Try.ntmps7
    go_wp2
    all_goals
      go_ret
      exact ⟨rfl, Below.refl _ _⟩
  · have hn : 65536 < len5 := by omega
    clear h
    go_enter Try.func7, Try.ntmps7
    go_wp2
    all_goals
      go_ret
      exact ⟨rfl, Below.refl _ _⟩

set_option maxRecDepth 100000 in
set_option maxHeartbeats 1000000 in
theorem place_out (a1 : Bool) (a2 : ByteArray) (a3 a4 : Int) (a5 : Option Addr) (len5 cap5 : Nat) (w : World) (hD : a2.size ≤ 65536) (hn : len5 ≤ 65536) (ho : a3 < -65536 ∨ 65536 < a3 ∨ a4 < 0 ∨ 65536 < a4) :
    Calls Try.prog 7 #[.bool false, .bool a1, .string a2, .int .i64 a3, .int .i64 a4, .slice a5 len5 cap5] w fun e w' => e = .returned (.bool true) ∧ Below w.heap.size w w' := by
  have ho2 : a3 < -65536 ∨ (¬ a3 < -65536 ∧ 65536 < a3) ∨ (¬ a3 < -65536 ∧ ¬ 65536 < a3 ∧ a4 < 0) ∨ (¬ a3 < -65536 ∧ ¬ 65536 < a3 ∧ ¬ a4 < 0 ∧ 65536 < a4) := by omega
  clear ho
  rcases ho2 with h1 | ⟨h1, h2⟩ | ⟨h1, h2, h3⟩ | ⟨h1, h2, h3, h4⟩
  all_goals
    go_enter Try.func7, Try.ntmps7
    go_wp2
    go_ret
    exact ⟨rfl, Below.refl _ _⟩

theorem walk (a0 : Bool) (a1 : Bool) (a2 : ByteArray) (a3 : Int) (a4 : Int) (a5 : Option Addr) (len5 cap5 : Nat) (z5 : List Int) (w : World) (w2 : a2.size ≤ maxLen) (w3 : (Lit.int .i64 a3).wf = true) (w4 : (Lit.int .i64 a4).wf = true) (w5 : IsRow .u8 w a5 len5 cap5 z5) :
    Calls Try.prog 7 #[.bool a0, .bool a1, .string a2, .int .i64 a3, .int .i64 a4, .slice a5 len5 cap5] w fun e w' => e = .returned (.bool true) ∧ Below w.heap.size w w' := by
  unfold maxLen at w2
  have hl : len5 ≤ 9223372036854775807 := by
    rcases w5 with ⟨_, rfl, _, _⟩ | ⟨_, _, h1, h2, _⟩
    · omega
    · unfold maxLen at h2; omega
  by_cases h : 65536 < a2.size ∨ 65536 < len5
  · exact place_long a0 a1 a2 a3 a4 a5 len5 cap5 w (by omega) hl h
  · obtain ⟨bs, hbs, hcl⟩ := clone_row w5 (by omega)
    cases a0
    · by_cases ho : a3 < -65536 ∨ 65536 < a3 ∨ a4 < 0 ∨ 65536 < a4
      · exact place_out a1 a2 a3 a4 a5 len5 cap5 w (by omega) (by omega) ho
      · exact place_num a1 a2 a3 a4 a5 len5 cap5 bs w (by omega) (by omega) (by omega) (by omega) (by omega) (by omega) (by omega) hcl
    · exact place_nan a1 a2 a3 a4 a5 len5 cap5 bs w (by omega) (by omega) (by omega) hcl

/-! ### THE ROW's STEP: WRITTEN OUT: LEAVE IT -/
set_option maxRecDepth 100000 in
theorem lifted (os : Os) (started : os.Started) (H : Type) (enc : TypeId × Value → H) :
    ReturnsInHanded {} Try.checked os 7 .any (Rows.fnNumericTextIsPlaceValueDigitsSpec.pre6 enc Try.prog Try.f7 Rows.fnNumericTextIsPlaceValueDigitsRow.domain false) (Rows.fnNumericTextIsPlaceValueDigitsSpec.post enc Try.prog Try.f7 false true false false) := by
  refine returnsInHanded_of_change (C := Try.checked) own started (by kernel_rfl) Try.func7
    (ChangeSpec.witness6 (enc := enc) (C := Try.checked) false ⟨#[], #[.bool false, .bool false, .string ByteArray.empty, .int .i64 0, .int .i64 0, .slice none 0 0], []⟩ 8 (by kernel_rfl) (by kernel_rfl) (by kernel_rfl) (by kernel_rfl)) ?_
  intro W base args ds gs before hval0 hW hcnd _
  have hval : ∀ (j : Nat) t v, Try.f7.params[j]? = some t → args[j]? = some v → Value.okWide Try.prog W .any base t v := hval0
  have hW' := hW
  obtain ⟨p, q, hA0, hV, rfl, hfz, hnd⟩ := hW
  have hA : DataW.TrodAll enc Try.prog W 0 (fun _ => true) true Try.f7.params.toList args.toList ds p := hA0
  rw [Try.params7] at hA hval
  obtain ⟨v0, vs0, d0, ds0, p0, q0, hargs, rfl, rfl, h0, r0⟩ := trodAll_cons hA
  obtain ⟨v1, vs1, d1, ds1, p1, q1, rfl, rfl, rfl, h1, r1⟩ := trodAll_cons r0
  obtain ⟨v2, vs2, d2, ds2, p2, q2, rfl, rfl, rfl, h2, r2⟩ := trodAll_cons r1
  obtain ⟨v3, vs3, d3, ds3, p3, q3, rfl, rfl, rfl, h3, r3⟩ := trodAll_cons r2
  obtain ⟨v4, vs4, d4, ds4, p4, q4, rfl, rfl, rfl, h4, r4⟩ := trodAll_cons r3
  obtain ⟨v5, vs5, d5, ds5, p5, q5, rfl, rfl, rfl, h5, r5⟩ := trodAll_cons r4
  obtain ⟨rfl, rfl, rfl⟩ := trodAll_nil r5
  obtain rfl : args = #[v0, v1, v2, v3, v4, v5] := by cases args; simp_all
  obtain ⟨rfl, rfl⟩ := trodVars_none hV
  obtain ⟨a0, rfl, rfl, rfl⟩ := open_bool Try.underlying4 (hval 0 4 v0 rfl rfl) h0
  obtain ⟨a1, rfl, rfl, rfl⟩ := open_bool Try.underlying4 (hval 1 4 v1 rfl rfl) h1
  obtain ⟨a2, rfl, rfl, rfl, w2⟩ := open_string Try.underlying9 (hval 2 9 v2 rfl rfl) h2
  obtain ⟨a3, rfl, rfl, rfl, w3⟩ := open_int Try.underlying3 (hval 3 3 v3 rfl rfl) h3
  obtain ⟨a4, rfl, rfl, rfl, w4⟩ := open_int Try.underlying3 (hval 4 3 v4 rfl rfl) h4
  obtain ⟨a5, len5, cap5, rfl⟩ := okWide_slice Try.underlying27 (hval 5 27 v5 rfl rfl)
  have k5 := h5
  have lt5 : ∀ x ∈ p5, x.block < W.heap.size := by obtain ⟨m, hm⟩ := k5; exact DataW.trod_lt m _ _ _ hm
  obtain ⟨z5, w5⟩ : ∃ zs, IsRow .u8 W a5 len5 cap5 zs := by
    obtain ⟨fuel, hf⟩ := h5
    rcases open_ints Try.underlying27 Try.underlying5 (by kernel_rfl) hf with ⟨hcs, _⟩ | ⟨x, l, c, zs, hcs, _, hl, hm, hz, _, hcell, hwz⟩
    · simp [Value.cells] at hcs
      obtain ⟨rfl, rfl, rfl⟩ := hcs
      exact ⟨[], .inl ⟨rfl, rfl, rfl, rfl⟩⟩
    · simp [Value.cells] at hcs
      obtain ⟨rfl, rfl, rfl⟩ := hcs
      exact ⟨zs, .inr ⟨_, rfl, hl, hm, by simpa using hz, hcell, hwz⟩⟩
  clear hA0 hval0
  refine (walk a0 a1 a2 a3 a4 a5 len5 cap5 z5 W w2 w3 w4 w5).mono fun e W' ⟨he, bel⟩ => ?_
  subst he
  exact ⟨_, rfl, _, _, _, [], _, [], hW', trodAll_mk1 (shut_bool Try.underlying4 _), (trodAll_cons_mk (shut_bool Try.underlying4 _) (trodAll_cons_mk (shut_bool Try.underlying4 _) (trodAll_cons_mk (shut_string Try.underlying9 w2) (trodAll_cons_mk (shut_int Try.underlying3 w3) (trodAll_cons_mk (shut_int Try.underlying3 w4) (trodAll_cons_mk (Below.trod laidOut (by kernel_rfl) (of_decide_eq_true (by kernel_rfl)) k5 bel lt5) trodAll_mk0)))))), rfl, bel.frame _, fun h => by cases h⟩

theorem over : Rows.fnNumericTextIsPlaceValueDigitsRow.holds Try.pinned (OpenSpec.ofChange Rows.fnNumericTextIsPlaceValueDigitsSpec) :=
  OpenClaim.holds_of_wide 7 Try.f7 rfl rfl rfl rfl rfl rfl rfl ⟨rfl, rfl, rfl, rfl, rfl⟩ rfl rfl rfl rfl rfl (by kernel_rfl) Try.func7 (by kernel_rfl)
    (of_decide_eq_true (by kernel_rfl)) (by unfold Func.isWrapper; first | (rw [if_pos (by decide +kernel)]; kernel_rfl) | (rw [if_neg (by decide +kernel)]; exact ⟨rfl, rfl⟩))
    (fun os started H enc _ => lifted os started H enc)

/-- ████ THE STATEMENT ████ -/
theorem proved : Rows.FnNumericTextIsPlaceValueDigitsSaid := over
#print axioms proved
end Go.Proofs.Qxb6600826a.fnNumericTextIsPlaceValueDigits
