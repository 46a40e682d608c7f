/- The walk of FnCompactIntegerMatchesTokenModel (6). -/
import Derived.Test.Qxb6601381aModel
namespace Go.Proofs.Qxb6601381a
open Go.RowKit

theorem own_below {w w' : World} {v : Value} {xs : List Int} (h : Own w v xs) (hb : Below w.heap.size w w') : Own w' v xs :=
  World.ownsRow.kept h (row := none) ⟨hb.os, hb.tape, hb.output, hb.size, fun k hk _ => hb.block k hk⟩ (by cases hv : v.ownBlock <;> simp)

theorem step_below {w w' : World} {v : Value} (h : Step w (.slice none 0 0) w' v) : Below w.heap.size w w' :=
  h.below (Below.refl _ _) (Nat.le_refl _) (fun k hk => by cases hk)

set_option maxHeartbeats 400000 in
theorem zb_match (a : Option Addr) (N cap : Nat) (i n bs : Int) (w : World) (hN : N ≤ 1048576) :
    Calls Try.prog 17 #[.slice a N cap, .int .i64 i, .int .i64 n, .int .i64 bs] w fun e w' => e = .returned (.bool true) ∧ w = w' := by
  go_enter Try.func17, Try.ntmps17
  go_wp2
  go_ret
  exact ⟨rfl, rfl⟩

set_option maxRecDepth 100000 in
set_option maxHeartbeats 1000000 in
theorem match_in (a : Option Addr) (N cap : Nat) (B : List Int) (i : Nat) (n bs : Int) (w : World) (hN : N ≤ 1048576) (hB : B.length ≤ 1048576) (h1 : 1 ≤ bs) (h2 : bs ≤ 9223372036854775807)
    (hcl : Hid (Calls Try.prog 10 #[.slice a N cap] w (Makes w B))) :
    Calls Try.prog 6 #[.slice a N cap, .int .i64 i, .int .i64 n, .int .i64 bs] w fun e w' => e = .returned (.bool true) ∧ Below w.heap.size w w' := by
  go_enter Try.func6, Try.ntmps6
  go_wp2_with (go_at_call 17; refine (zb_match _ _ _ _ _ _ _ hN).mono ?_; rintro e w2 ⟨rfl, rfl⟩)
  refine hcl.out.mono ?_
  rintro e w1 ⟨v1, rfl, ho1, hs1⟩
  have Ho1 : Hid (Own w1 v1 B) := ho1
  have Hb1 : Hid (Below w.heap.size w w1) := step_below hs1
  clear ho1 hs1 hcl
  go_wp2_with fail
  refine (zz_any v1 B i n bs w1 Ho1.out (by omega) h1 h2).mono ?_
  rintro e w2 ⟨rfl, hb2⟩
  have Hb2 : Hid (Below w.heap.size w w2) := Hb1.out.trans (hb2.mono Hb1.out.size)
  have Ho2 : Hid (Own w2 v1 B) := own_below Ho1.out hb2
  clear hb2
  obtain ⟨r, hr⟩ : ∃ r, r = ci B i n bs := ⟨_, rfl⟩
  have Hr : Hid (r = ci B i n bs) := hr
  rw [← hr]
  clear hr
  obtain ⟨v, e, ok⟩ := r
  go_wp2_with fail
  refine (model_any v1 B i n bs w2 Ho2.out (by omega) h1 h2).mono ?_
  rw [← Hr.out]
  rintro e w3 ⟨rfl, rfl⟩
  go_wp2
  go_ret
  exact ⟨rfl, Hb2.out⟩

end Go.Proofs.Qxb6601381a
