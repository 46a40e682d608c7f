/- The walk of FnNumericTextIsPlaceValueDigits (7). -/
import Derived.Test.Qxb6600826aPlace
namespace Go.Proofs.Qxb6600826a
open Go.RowKit

set_option maxHeartbeats 400000 in
theorem zb_in (nan neg : Bool) (D : ByteArray) (point scale : Int) (a : Option Addr) (n c : Nat) (w : World) (hD : D.size ≤ 65536) (hn : n ≤ 65536) :
    Calls Try.prog 20 #[.bool nan, .bool neg, .string D, .int .i64 point, .int .i64 scale, .slice a n c] w fun e w' => e = .returned (.bool true) ∧ w' = w := by
  go_enter Try.func20, Try.ntmps20
  go_wp2
  go_ret
  exact ⟨rfl, rfl⟩

theorem srcOwn (w : World) (v : Value) (xs : List Int) (h : Own w v xs) : Src Try.prog 1 27 v xs.length (cellsOf8 xs) w := by
  rcases h.form with ⟨rfl, rfl⟩ | ⟨g, cap, rfl, _, _, _, hcell⟩
  · exact srcNil w Try.underlying27 0
  · exact srcBytes w Try.underlying27 ⟨g, 0, none⟩ cap xs (fun j hj => by rw [Addr.add_lit, Nat.zero_add]; exact hcell j hj)

theorem srcNan (w : World) : Src Try.prog 1 27 (.slice (some ⟨w.heap.size, 0, none⟩) 3 3) ([78, 97, 78] : List Int).length (cellsOf8 [78, 97, 78]) (w.alloc (.cells #[.int .u8 78, .int .u8 97, .int .u8 78] 5)) := by
  refine srcBytes (w.alloc (.cells #[.int .u8 78, .int .u8 97, .int .u8 78] 5)) Try.underlying27 ⟨w.heap.size, 0, none⟩ 3 [78, 97, 78] ?_
  intro j hj
  match j, hj with
  | 0, _ => simp [Addr.add]
  | 1, _ => simp [Addr.add]
  | 2, _ => simp [Addr.add]

theorem apart_new {w w' : World} {u v : Value} {xs : List Int} (hu : Own w u xs) (hs : Step w (.slice none 0 0) w' v) : v.ownBlock = none ∨ v.ownBlock ≠ u.ownBlock := by
  rcases hs.lies with e | ⟨k, e, hk⟩
  · exact .inl e
  · refine .inr (fun h => ?_)
    have := (World.ownsRow.lt hu k (h ▸ e)).2
    omega

theorem apart_step {w w' : World} {u v v' : Value} {xs : List Int} (hu : Own w u xs) (hs : Step w v w' v') (h : u.ownBlock = none ∨ u.ownBlock ≠ v.ownBlock) : v'.ownBlock = none ∨ v'.ownBlock ≠ u.ownBlock := by
  rcases hs.lies with e | ⟨k, e, hk⟩
  · rcases h with h | h
    · cases hv : v'.ownBlock with
      | none => exact .inl rfl
      | some k => exact .inr (by rw [h]; simp)
    · exact .inr (by rw [e]; exact fun hh => h hh.symm)
  · refine .inr (fun h => ?_)
    have := (World.ownsRow.lt hu k (h ▸ e)).2
    omega

theorem kept_new {w w' : World} {u v : Value} {xs : List Int} (hu : Own w u xs) (hs : Step w (.slice none 0 0) w' v) : Own w' u xs :=
  hs.kept hu (by cases h : u.ownBlock with | none => exact .inl rfl | some k => exact .inr (by simp [Value.ownBlock]))

/-- All that the law needs of the five worlds, once the callees have run. -/
theorem below_chain {w w1 w2 w3 w4 w5 : World} {v1 v2 v3 vm v5 : Value} (h1 : Step w (.slice none 0 0) w1 v1) (h2 : Step w1 (.slice none 0 0) w2 v2) (h3 : Step w2 v1 w3 v3) (h4 : Step w3 (.slice none 0 0) w4 vm) (h5 : Step w4 v2 w5 v5) : Below w.heap.size w w5 := by
  have n0 : ∀ k, (Value.slice none 0 0).ownBlock = some k → w.heap.size ≤ k := fun k hk => by cases hk
  have b1 := h1.below (Below.refl w.heap.size w) (Nat.le_refl _) n0
  have s1 := h1.since (Nat.le_refl w.heap.size) n0
  have b2 := h2.below b1 b1.size n0
  have s2 := h2.since b1.size n0
  have b3 := h3.below b2 b2.size s1
  have b4 := h4.below b3 b3.size n0
  exact h5.below b4 b4.size s2

set_option maxRecDepth 100000 in
set_option maxHeartbeats 1000000 in
theorem place_num (neg : Bool) (D : ByteArray) (point scale : Int) (a : Option Addr) (n c : Nat) (bs : List Int) (w : World) (hD : D.size ≤ 65536) (hn : n ≤ 65536) (hbs : bs.length ≤ 65536) (h1 : -65536 ≤ point) (h2 : point ≤ 65536) (h3 : 0 ≤ scale) (h4 : scale ≤ 65536)
    (hcl : Hid (Calls Try.prog 17 #[.slice a n c] w (Makes w bs))) :
    Calls Try.prog 7 #[.bool false, .bool neg, .string D, .int .i64 point, .int .i64 scale, .slice a n c] w fun e w' => e = .returned (.bool true) ∧ Below w.heap.size w w' := by
  obtain ⟨i0, hi, hz0, hz1, hz2⟩ := info_parts info5
  go_enter Try.func7, Try.ntmps7
  go_wp2_with (first | (go_at_call 20; refine (zb_in _ _ _ _ _ _ _ _ _ hD hn).mono ?_; rintro e w2 ⟨rfl, rfl⟩) | (go_at_call 21; refine (valid_any _ _ _ _ hD h1 h2 h3 h4).mono ?_; rintro e w2 ⟨b, rfl, rfl, hb⟩))
  · go_ret
    exact ⟨rfl, Below.refl _ _⟩
  · have hv : Valid (bytesOf D) point scale := hb (by cases b <;> simp_all)
    have h0 : Hid (D.size = 0 → point = 0) := by
      intro h0
      rcases hv.2 with ⟨_, h⟩ | ⟨hne, _⟩
      · exact h
      · exact absurd (List.eq_nil_of_length_eq_zero (by rw [bytesOf_length, h0])) hne
    have HV : Hid (Valid (bytesOf D) point scale) := hv
    clear hb hv
    refine hcl.out.mono ?_
    rintro e w1 ⟨v1, rfl, ho1, hs1⟩
    have Ho1 : Hid (Own w1 v1 bs) := ho1
    have Hs1 : Hid (Step w2 (.slice none 0 0) w1 v1) := hs1
    clear ho1 hs1 hcl
    go_wp2_with fail
    refine (clone_own w1 v1 bs Ho1.out (by omega)).mono ?_
    rintro e wb ⟨v2, rfl, ho2, hs2⟩
    have Ho2 : Hid (Own wb v2 bs) := ho2
    have Hs2 : Hid (Step w1 (.slice none 0 0) wb v2) := hs2
    have Ho1b : Hid (Own wb v1 bs) := kept_new Ho1.out hs2
    have Hap : Hid (v2.ownBlock = none ∨ v2.ownBlock ≠ v1.ownBlock) := apart_new Ho1.out hs2
    clear ho2 hs2
    go_wp2_with fail
    refine (zz_any D point scale neg wb v1 bs Ho1b.out (by omega) hD h1 h2 h3 h4 h0.out).mono ?_
    rintro e w3 ⟨v3, rfl, ho3, hs3⟩
    have Ho3 : Hid (Own w3 v3 (bs ++ txt neg (bytesOf D) point scale)) := ho3
    have Hs3 : Hid (Step wb v1 w3 v3) := hs3
    have Ho2b : Hid (Own w3 v2 bs) := hs3.kept Ho2.out Hap.out
    have Hap3 : Hid (v3.ownBlock = none ∨ v3.ownBlock ≠ v2.ownBlock) := apart_step Ho2.out hs3 Hap.out
    clear ho3 hs3
    go_wp2_with fail
    refine (model_any neg D point scale w3 hD h1 h2 h3 h4).mono ?_
    rintro e w4 ⟨vm, rfl, ho4, hs4⟩
    have Ho4 : Hid (Own w4 vm (mdl neg (bytesOf D) point scale)) := ho4
    have Hs4 : Hid (Step w3 (.slice none 0 0) w4 vm) := hs4
    have Ho2c : Hid (Own w4 v2 bs) := kept_new Ho2b.out hs4
    have Ho3c : Hid (Own w4 v3 (bs ++ txt neg (bytesOf D) point scale)) := kept_new Ho3.out hs4
    have hml : (mdl neg (bytesOf D) point scale).length ≤ 200000 := by
      rw [← txt_mdl _ _ _ _ HV.out]
      exact txt_length _ _ _ _ HV.out h2 h4
    clear ho4 hs4
    go_wp2_with (at_builtin; refine wpList_append_step _ rfl _ _ 27 27 rfl i0 Try.underlying27 hi hz0 hz1 hz2 v2 bs rfl Ho2c.out vm rfl _ (srcOwn w4 vm _ Ho4.out) (by omega) ?_; intro v5 w5 ho5 hs5)
    have ho3d : Own w5 v3 (bs ++ txt neg (bytesOf D) point scale) := hs5.kept Ho3c.out Hap3.out
    refine (equal_own w5 v3 v5 (bs ++ txt neg (bytesOf D) point scale) ho3d (by rw [txt_mdl _ _ _ _ HV.out]; exact ho5) (by rw [txt_mdl _ _ _ _ HV.out, List.length_append]; omega)).mono ?_
    rintro e w6 ⟨rfl, hb6⟩
    have HB : Hid (Below w2.heap.size w2 w6) := (below_chain Hs1.out Hs2.out Hs3.out Hs4.out hs5).trans (hb6.mono (below_chain Hs1.out Hs2.out Hs3.out Hs4.out hs5).size)
    clear ho5 hs5 ho3d hb6
    go_wp2
    go_ret
    exact ⟨rfl, HB.out⟩

set_option maxRecDepth 100000 in
set_option maxHeartbeats 1000000 in
theorem place_nan (neg : Bool) (D : ByteArray) (point scale : Int) (a : Option Addr) (n c : Nat) (bs : List Int) (w : World) (hD : D.size ≤ 65536) (hn : n ≤ 65536) (hbs : bs.length ≤ 65536)
    (hcl : Hid (Calls Try.prog 17 #[.slice a n c] w (Makes w bs))) :
    Calls Try.prog 7 #[.bool true, .bool neg, .string D, .int .i64 point, .int .i64 scale, .slice a n c] w fun e w' => e = .returned (.bool true) ∧ Below w.heap.size w w' := by
  obtain ⟨i0, hi, hz0, hz1, hz2⟩ := info_parts info5
  go_enter Try.func7, Try.ntmps7
  go_wp2_with (go_at_call 20; refine (zb_in _ _ _ _ _ _ _ _ _ hD hn).mono ?_; rintro e w2 ⟨rfl, rfl⟩)
  refine hcl.out.mono ?_
  rintro e w1 ⟨v1, rfl, ho1, hs1⟩
  have Ho1 : Hid (Own w1 v1 bs) := ho1
  have Hs1 : Hid (Step w2 (.slice none 0 0) w1 v1) := hs1
  clear ho1 hs1 hcl
  go_wp2_with fail
  refine (clone_own w1 v1 bs Ho1.out (by omega)).mono ?_
  rintro e wb ⟨v2, rfl, ho2, hs2⟩
  have Ho2 : Hid (Own wb v2 bs) := ho2
  have Hs2 : Hid (Step w1 (.slice none 0 0) wb v2) := hs2
  have Ho1b : Hid (Own wb v1 bs) := kept_new Ho1.out hs2
  have Hap : Hid (v2.ownBlock = none ∨ v2.ownBlock ≠ v1.ownBlock) := apart_new Ho1.out hs2
  clear ho2 hs2
  go_wp2_with fail
  refine (zz_nan D point scale neg wb v1 bs Ho1b.out (by omega)).mono ?_
  rintro e w3 ⟨v3, rfl, ho3, hs3⟩
  have Ho3 : Hid (Own w3 v3 (bs ++ [78, 97, 78])) := ho3
  have Hs3 : Hid (Step wb v1 w3 v3) := hs3
  have Ho2b : Hid (Own w3 v2 bs) := hs3.kept Ho2.out Hap.out
  have Hap3 : Hid (v3.ownBlock = none ∨ v3.ownBlock ≠ v2.ownBlock) := apart_step Ho2.out hs3 Hap.out
  clear ho3 hs3
  go_wp2_with (at_builtin; refine wpList_append_step _ rfl _ _ 27 27 rfl i0 Try.underlying27 hi hz0 hz1 hz2 v2 bs rfl (Ho2b.out.alloc _) _ rfl [78, 97, 78] (srcNan w3) (by simp; omega) ?_; intro v5 w5 ho5 hs5)
  have ho3d : Own w5 v3 (bs ++ [78, 97, 78]) := hs5.kept (Ho3.out.alloc _) Hap3.out
  refine (equal_own w5 v3 v5 (bs ++ [78, 97, 78]) ho3d ho5 (by simp; omega)).mono ?_
  rintro e w6 ⟨rfl, hb6⟩
  have HC := below_chain Hs1.out Hs2.out Hs3.out (Step.allocd w3 (.slice none 0 0) _) hs5
  have HB : Hid (Below w2.heap.size w2 w6) := HC.trans (hb6.mono HC.size)
  clear ho5 hs5 ho3d hb6 HC
  go_wp2
  go_ret
  exact ⟨rfl, HB.out⟩

end Go.Proofs.Qxb6600826a
