/- The walks of appendZeros (35), appendText (30), ZZNumericAppendText (22). -/
import Derived.Test.Qxb6600826aChecked
import Derived.Test.Qxb6600826aOwn
import Derived.Test.Qxb6600826aPlain
import Derived.WalkKit
import Derived.WalkLawsBesides
import Derived.KernelRfl
namespace Go.Proofs.Qxb6600826a
open Go.RowKit

theorem info5 : (Try.prog.info? 5).map (fun i => (i.zero, i.size, i.bytes)) = some (some (.int .u8 0), 1, 1) := by kernel_rfl

/-- 'append(b, c)' of one byte: the new block that holds c. -/
theorem srcOne (w : World) (t : TypeId) (c : Int) (hk : Try.prog.underlying t = some (.slice 5)) (m H : Nat) (hH : w.heap.size = H) : Src Try.prog 1 t (.slice (some ⟨H, 0, none⟩) 1 m) ([c] : List Int).length (cellsOf8 [c]) (w.alloc (.cells #[.int .u8 c] 5)) := by
  subst hH
  refine srcBytes (w.alloc (.cells #[.int .u8 c] 5)) hk ⟨w.heap.size, 0, none⟩ m [c] ?_
  intro j hj
  obtain rfl : j = 0 := by simpa using hj
  simp [Addr.add]

set_option maxHeartbeats 400000 in
theorem zeros_any (w : World) (v : Value) (xs : List Int) (c : Int) (hown : Own w v xs) (hx : xs.length ≤ 1000000) (hc : c ≤ 1000000) :
    Calls Try.prog 35 #[v, .int .i64 c] w fun e w' => ∃ v', e = .returned v' ∧ Own w' v' (xs ++ List.replicate c.toNat 48) ∧ Step w v w' v' := by
  obtain ⟨i0, hi, hz0, hz1, hz2⟩ := info_parts info5
  go_enter Try.func35, Try.ntmps35
  go_wp2
  go_loopw [0, 6] (fun b i wr => ∃ k : Nat, (k : Int) ≤ max c 0 ∧ i = .int .i64 k ∧ Own wr b (xs ++ List.replicate k 48) ∧ Step w v wr b) (fun _ i _ => (c - intOf i).toNat)
  case atStart => exact ⟨0, by omega, rfl, by simpa using hown, Step.refl _ _⟩
  case round =>
    obtain ⟨k, hk, rfl, ho, hst⟩ := hrel
    by_cases hlt : (k : Int) < c
    · go_wp2_with (at_builtin; refine wpList_append_step _ rfl _ _ 27 27 rfl i0 Try.underlying27 hi hz0 hz1 hz2 _ _ rfl (ho.alloc _) _ rfl [48] (srcOne _ 27 48 Try.underlying27 1 _ rfl) ?_ ?_)
      · simp; omega
      · intro v' w1 ho1 hs1
        have ho2 : Own w1 v' (xs ++ List.replicate (k + 1) 48) := by rw [List.replicate_succ']; exact ho1
        have hs2 := (hst.alloc _).trans hs1
        clear ho1 hs1 ho hst hown
        go_wp2
        go_roundw
        case rel => exact ⟨k + 1, by omega, by go_num, ho2, hs2⟩
        case measure => simp [intOf]; omega
    · go_wp2
      go_ret
      have e : c.toNat = k := by omega
      exact ⟨_, rfl, by rw [e]; exact ho, hst⟩

/-- A box that the call has laid, and that v's row is not. -/
structure Box (B : Nat) (cs : Array Value) (T : TypeId) (w : World) (v : Value) : Prop where
  block : w.heap[B]? = some (.cells cs T (0, 0))
  apart : v.ownBlock ≠ some B

theorem Box.step {B : Nat} {cs : Array Value} {T : TypeId} {w w' : World} {v v' : Value} (h : Box B cs T w v) (s : Step w v w' v') : Box B cs T w' v' := by
  have hlt : B < w.heap.size := (Array.getElem?_eq_some_iff.1 h.block).1
  refine ⟨(s.grown.block B hlt (fun e => h.apart e.symm)).trans h.block, ?_⟩
  rcases s.lies with e | ⟨k, e, hk⟩
  · rw [e]; exact h.apart
  · rw [e]; intro hh; cases hh; omega

theorem Box.cell {B : Nat} {cs : Array Value} {T : TypeId} {w : World} {v : Value} (h : Box B cs T w v) (j : Nat) : w.cell? ⟨B, j, none⟩ = cs[j]? := cell_of_row w B j cs T (0, 0) h.block

theorem Box.five {B : Nat} {c0 c1 c2 c3 c4 : Value} {T : TypeId} {w : World} {v : Value} (h : Box B #[c0, c1, c2, c3, c4] T w v) :
    w.cell? ⟨B, 1, none⟩ = some c1 ∧ w.cell? ⟨B, 2, none⟩ = some c2 ∧ w.cell? ⟨B, 3, none⟩ = some c3 ∧ w.cell? ⟨B, 4, none⟩ = some c4 :=
  ⟨h.cell 1, h.cell 2, h.cell 3, h.cell 4⟩

theorem Box.new (w : World) (cs : Array Value) (T : TypeId) (v : Value) (xs : List Int) (h : Own w v xs) : Box w.heap.size cs T (w.alloc (.cells cs T)) v := by
  refine ⟨heap_alloc_new w _, fun e => ?_⟩
  have := (World.ownsRow.lt h _ e).2
  omega


theorem bytesOf_extract (D : ByteArray) (a b : Nat) : bytesOf (D.extract a b) = ((bytesOf D).take b).drop a := by
  simp [bytesOf, ByteArray.data_extract, Array.toList_extract, List.drop_take]

theorem takeAll (D : ByteArray) : (bytesOf D).take D.size = bytesOf D := List.take_of_length_le (by rw [bytesOf_length]; omega)
theorem bytesOf_empty : bytesOf ByteArray.empty = [] := rfl

theorem nonempty_toList (D : ByteArray) (h : 0 < D.size) : D.toList.isEmpty = false := by
  rw [ByteArray.toList_eq]
  have : D.data.toList.length = D.size := by rw [Array.length_toList]; rfl
  cases hl : D.data.toList with
  | nil => rw [hl] at this; simp at this; omega
  | cons _ _ => rfl

theorem Own.cast {w : World} {v : Value} {xs ys : List Int} (h : Own w v xs) (e : ys = xs) : Own w v ys := e ▸ h

theorem wl_neg (n : Nat) (p : Int) (h : p ≤ 0) : wholeLen n p = 0 := by unfold wholeLen; omega
theorem wl_in (n p : Nat) (h : p ≤ n) : wholeLen n (p : Int) = p := by unfold wholeLen; omega
theorem wl_over (n p : Nat) (h : n ≤ p) : wholeLen n (p : Int) = n := by unfold wholeLen; omega

set_option maxHeartbeats 1000000 in
theorem text_neg (D : ByteArray) (point : Int) (scale : Int) (neg : Bool) (w : World) (v : Value) (xs : List Int) (hown : Own w v xs) (hx : xs.length ≤ 100000) (hD : D.size ≤ 65536) (h1 : -65536 ≤ point) (h2 : point < 0) (h3 : 0 ≤ scale) (h4 : scale ≤ 65536) :
    Calls Try.prog 30 #[.agg #[.bool false, .bool neg, .string D, .int .i64 point, .int .i64 scale], v] w fun e w' => ∃ v', e = .returned v' ∧ Own w' v' (xs ++ txt neg (bytesOf D) point scale) ∧ Step w v w' v' := by
  obtain ⟨i0, hi, hz0, hz1, hz2⟩ := info_parts info5
  have hbox := Box.new w #[.bool false, .bool neg, .string D, .int .i64 point, .int .i64 scale] 44 v xs hown
  have ho := hown.alloc (.cells #[.bool false, .bool neg, .string D, .int .i64 point, .int .i64 scale] 44)
  have hst := Step.allocd w v (.cells #[.bool false, .bool neg, .string D, .int .i64 point, .int .i64 scale] 44)
  clear hown
  rcases Decidable.em (scale = 0) with rfl | hs0
  all_goals cases neg
  all_goals
    go_enter Try.func30, Try.ntmps30
    go_wp2_with (first
      | (at_builtin; refine wpList_append_step _ rfl _ _ 27 27 rfl i0 Try.underlying27 hi hz0 hz1 hz2 _ _ rfl (ho.alloc _) _ rfl [_] (srcOne _ 27 _ Try.underlying27 _ _ (by simp)) (by simp [bytesOf_length]; omega) ?_; intro v2 w2 ho2 hs2; replace hst := (hst.alloc _).trans hs2; replace hbox := (hbox.step (Step.allocd _ _ _)).step hs2; replace ho := ho2; clear ho2 hs2; obtain ⟨c1, c2, c3, c4⟩ := hbox.five)
      | (at_builtin; refine wpList_append_step _ rfl _ _ 27 9 rfl i0 Try.underlying27 hi hz0 hz1 hz2 _ _ rfl ho _ rfl _ (srcString _ Try.underlying9 _) (by simp [bytesOf_length]; omega) ?_; intro v2 w2 ho2 hs2; replace hst := hst.trans hs2; replace hbox := hbox.step hs2; replace ho := ho2; clear ho2 hs2; obtain ⟨c1, c2, c3, c4⟩ := hbox.five)
      | (go_at_call 35; refine (zeros_any _ _ _ _ ho (by simp [bytesOf_length]; omega) (by omega)).mono ?_; rintro e w2 ⟨v2, rfl, ho2, hs2⟩; replace hst := hst.trans hs2; replace hbox := hbox.step hs2; replace ho := ho2; clear ho2 hs2; obtain ⟨c1, c2, c3, c4⟩ := hbox.five))
    go_ret
    refine ⟨_, rfl, Own.cast ho ?_, hst⟩
    clear hst hbox c1 c2 c3 c4 ho
    first | (simp [txt, wl_neg _ _ (Int.le_of_lt h2), bytesOf_empty, zer, bytesOf_length]; done) | (simp [txt, wl_neg _ _ (Int.le_of_lt h2), bytesOf_empty, zer, bytesOf_length, hs0]; done) | (simp [txt, wl_neg _ _ (Int.le_of_lt h2), bytesOf_empty, zer, bytesOf_length, hs0]; congr 2; omega)

set_option maxHeartbeats 1000000 in
theorem text_zero (D : ByteArray)  (scale : Int) (neg : Bool) (w : World) (v : Value) (xs : List Int) (hown : Own w v xs) (hx : xs.length ≤ 100000) (hD : D.size ≤ 65536)  (h3 : 0 ≤ scale) (h4 : scale ≤ 65536) :
    Calls Try.prog 30 #[.agg #[.bool false, .bool neg, .string D, .int .i64 0, .int .i64 scale], v] w fun e w' => ∃ v', e = .returned v' ∧ Own w' v' (xs ++ txt neg (bytesOf D) 0 scale) ∧ Step w v w' v' := by
  obtain ⟨i0, hi, hz0, hz1, hz2⟩ := info_parts info5
  have hbox := Box.new w #[.bool false, .bool neg, .string D, .int .i64 0, .int .i64 scale] 44 v xs hown
  have ho := hown.alloc (.cells #[.bool false, .bool neg, .string D, .int .i64 0, .int .i64 scale] 44)
  have hst := Step.allocd w v (.cells #[.bool false, .bool neg, .string D, .int .i64 0, .int .i64 scale] 44)
  clear hown
  rcases Decidable.em (scale = 0) with rfl | hs0
  all_goals cases neg
  all_goals
    go_enter Try.func30, Try.ntmps30
    go_wp2_with (first
      | (at_builtin; refine wpList_append_step _ rfl _ _ 27 27 rfl i0 Try.underlying27 hi hz0 hz1 hz2 _ _ rfl (ho.alloc _) _ rfl [_] (srcOne _ 27 _ Try.underlying27 _ _ (by simp)) (by simp [bytesOf_length]; omega) ?_; intro v2 w2 ho2 hs2; replace hst := (hst.alloc _).trans hs2; replace hbox := (hbox.step (Step.allocd _ _ _)).step hs2; replace ho := ho2; clear ho2 hs2; obtain ⟨c1, c2, c3, c4⟩ := hbox.five)
      | (at_builtin; refine wpList_append_step _ rfl _ _ 27 9 rfl i0 Try.underlying27 hi hz0 hz1 hz2 _ _ rfl ho _ rfl _ (srcString _ Try.underlying9 _) (by simp [bytesOf_length]; omega) ?_; intro v2 w2 ho2 hs2; replace hst := hst.trans hs2; replace hbox := hbox.step hs2; replace ho := ho2; clear ho2 hs2; obtain ⟨c1, c2, c3, c4⟩ := hbox.five)
      | (go_at_call 35; refine (zeros_any _ _ _ _ ho (by simp [bytesOf_length]; omega) (by omega)).mono ?_; rintro e w2 ⟨v2, rfl, ho2, hs2⟩; replace hst := hst.trans hs2; replace hbox := hbox.step hs2; replace ho := ho2; clear ho2 hs2; obtain ⟨c1, c2, c3, c4⟩ := hbox.five))
    go_ret
    refine ⟨_, rfl, Own.cast ho ?_, hst⟩
    clear hst hbox c1 c2 c3 c4 ho
    first | (simp [txt, wl_neg _ _ (Int.le_refl 0), bytesOf_empty, zer, bytesOf_length]; done) | (simp [txt, wl_neg _ _ (Int.le_refl 0), bytesOf_empty, zer, bytesOf_length, hs0]; done) | (simp [txt, wl_neg _ _ (Int.le_refl 0), bytesOf_empty, zer, bytesOf_length, hs0]; congr 2; omega)

set_option maxHeartbeats 1000000 in
theorem text_in (D : ByteArray) (p : Nat) (scale : Int) (neg : Bool) (w : World) (v : Value) (xs : List Int) (hown : Own w v xs) (hx : xs.length ≤ 100000) (hD : D.size ≤ 65536) (h1 : 0 < p) (h2 : p ≤ D.size) (h3 : 0 ≤ scale) (h4 : scale ≤ 65536) :
    Calls Try.prog 30 #[.agg #[.bool false, .bool neg, .string D, .int .i64 (p : Int), .int .i64 scale], v] w fun e w' => ∃ v', e = .returned v' ∧ Own w' v' (xs ++ txt neg (bytesOf D) (p : Int) scale) ∧ Step w v w' v' := by
  obtain ⟨i0, hi, hz0, hz1, hz2⟩ := info_parts info5
  have hbox := Box.new w #[.bool false, .bool neg, .string D, .int .i64 (p : Int), .int .i64 scale] 44 v xs hown
  have ho := hown.alloc (.cells #[.bool false, .bool neg, .string D, .int .i64 (p : Int), .int .i64 scale] 44)
  have hst := Step.allocd w v (.cells #[.bool false, .bool neg, .string D, .int .i64 (p : Int), .int .i64 scale] 44)
  clear hown
  have hne : (D.extract 0 p).toList.isEmpty = false := nonempty_toList _ (by rw [ByteArray.size_extract]; omega)
  rcases Decidable.em (scale = 0) with rfl | hs0
  all_goals cases neg
  all_goals
    go_enter Try.func30, Try.ntmps30
    go_wp2_with (first
      | (at_builtin; refine wpList_append_step _ rfl _ _ 27 27 rfl i0 Try.underlying27 hi hz0 hz1 hz2 _ _ rfl (ho.alloc _) _ rfl [_] (srcOne _ 27 _ Try.underlying27 _ _ (by simp)) (by simp [bytesOf_length]; omega) ?_; intro v2 w2 ho2 hs2; replace hst := (hst.alloc _).trans hs2; replace hbox := (hbox.step (Step.allocd _ _ _)).step hs2; replace ho := ho2; clear ho2 hs2; obtain ⟨c1, c2, c3, c4⟩ := hbox.five)
      | (at_builtin; refine wpList_append_step _ rfl _ _ 27 9 rfl i0 Try.underlying27 hi hz0 hz1 hz2 _ _ rfl ho _ rfl _ (srcString _ Try.underlying9 _) (by simp [bytesOf_length]; omega) ?_; intro v2 w2 ho2 hs2; replace hst := hst.trans hs2; replace hbox := hbox.step hs2; replace ho := ho2; clear ho2 hs2; obtain ⟨c1, c2, c3, c4⟩ := hbox.five)
      | (go_at_call 35; refine (zeros_any _ _ _ _ ho (by simp [bytesOf_length]; omega) (by omega)).mono ?_; rintro e w2 ⟨v2, rfl, ho2, hs2⟩; replace hst := hst.trans hs2; replace hbox := hbox.step hs2; replace ho := ho2; clear ho2 hs2; obtain ⟨c1, c2, c3, c4⟩ := hbox.five))
    go_ret
    refine ⟨_, rfl, Own.cast ho ?_, hst⟩
    clear hst hbox c1 c2 c3 c4 ho
    first | (simp [txt, wl_in _ _ h2, Nat.ne_of_gt h1, bytesOf_extract, takeAll, zer, bytesOf_length]; done) | (simp [txt, wl_in _ _ h2, Nat.ne_of_gt h1, bytesOf_extract, takeAll, zer, bytesOf_length, hs0]; done) | (simp [txt, wl_in _ _ h2, Nat.ne_of_gt h1, bytesOf_extract, takeAll, zer, bytesOf_length, hs0]; congr 2; omega)

set_option maxHeartbeats 1000000 in
theorem text_over (D : ByteArray) (p : Nat) (scale : Int) (neg : Bool) (w : World) (v : Value) (xs : List Int) (hown : Own w v xs) (hx : xs.length ≤ 100000) (hD : D.size ≤ 65536) (h1 : 0 < D.size) (h2 : D.size < p) (h5 : p ≤ 65536) (h3 : 0 ≤ scale) (h4 : scale ≤ 65536) :
    Calls Try.prog 30 #[.agg #[.bool false, .bool neg, .string D, .int .i64 (p : Int), .int .i64 scale], v] w fun e w' => ∃ v', e = .returned v' ∧ Own w' v' (xs ++ txt neg (bytesOf D) (p : Int) scale) ∧ Step w v w' v' := by
  obtain ⟨i0, hi, hz0, hz1, hz2⟩ := info_parts info5
  have hbox := Box.new w #[.bool false, .bool neg, .string D, .int .i64 (p : Int), .int .i64 scale] 44 v xs hown
  have ho := hown.alloc (.cells #[.bool false, .bool neg, .string D, .int .i64 (p : Int), .int .i64 scale] 44)
  have hst := Step.allocd w v (.cells #[.bool false, .bool neg, .string D, .int .i64 (p : Int), .int .i64 scale] 44)
  clear hown
  have hne : D.toList.isEmpty = false := nonempty_toList _ h1
  rcases Decidable.em (scale = 0) with rfl | hs0
  all_goals cases neg
  all_goals
    go_enter Try.func30, Try.ntmps30
    go_wp2_with (first
      | (at_builtin; refine wpList_append_step _ rfl _ _ 27 27 rfl i0 Try.underlying27 hi hz0 hz1 hz2 _ _ rfl (ho.alloc _) _ rfl [_] (srcOne _ 27 _ Try.underlying27 _ _ (by simp)) (by simp [bytesOf_length]; omega) ?_; intro v2 w2 ho2 hs2; replace hst := (hst.alloc _).trans hs2; replace hbox := (hbox.step (Step.allocd _ _ _)).step hs2; replace ho := ho2; clear ho2 hs2; obtain ⟨c1, c2, c3, c4⟩ := hbox.five)
      | (at_builtin; refine wpList_append_step _ rfl _ _ 27 9 rfl i0 Try.underlying27 hi hz0 hz1 hz2 _ _ rfl ho _ rfl _ (srcString _ Try.underlying9 _) (by simp [bytesOf_length]; omega) ?_; intro v2 w2 ho2 hs2; replace hst := hst.trans hs2; replace hbox := hbox.step hs2; replace ho := ho2; clear ho2 hs2; obtain ⟨c1, c2, c3, c4⟩ := hbox.five)
      | (go_at_call 35; refine (zeros_any _ _ _ _ ho (by simp [bytesOf_length]; omega) (by omega)).mono ?_; rintro e w2 ⟨v2, rfl, ho2, hs2⟩; replace hst := hst.trans hs2; replace hbox := hbox.step hs2; replace ho := ho2; clear ho2 hs2; obtain ⟨c1, c2, c3, c4⟩ := hbox.five))
    go_ret
    refine ⟨_, rfl, Own.cast ho ?_, hst⟩
    clear hst hbox c1 c2 c3 c4 ho
    first | (simp [txt, wl_over _ _ (Nat.le_of_lt h2), Nat.ne_of_gt h1, bytesOf_empty, takeAll, zer, bytesOf_length]; done) | (simp [txt, wl_over _ _ (Nat.le_of_lt h2), Nat.ne_of_gt h1, bytesOf_empty, takeAll, zer, bytesOf_length, hs0]; done) | (simp [txt, wl_over _ _ (Nat.le_of_lt h2), Nat.ne_of_gt h1, bytesOf_empty, takeAll, zer, bytesOf_length, hs0]; congr 2; omega)

end Go.Proofs.Qxb6600826a
