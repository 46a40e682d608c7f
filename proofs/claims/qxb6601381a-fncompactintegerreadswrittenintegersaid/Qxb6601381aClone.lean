/- The walk of b1CloneBytes (10). -/
import Derived.Test.Qxb6601381aChecked
import Derived.Test.Qxb6601381aOwn
import Derived.WalkKit
import Derived.WalkLawsBesides
import Derived.KernelRfl
import Derived.BigQuiet
import Derived.Deep.QuietTactic
import Derived.WalkSpells
namespace Go.Proofs.Qxb6601381a
open Go.RowKit

theorem info5 : (Try.prog.info? 5).map (fun i => (i.zero, i.size, i.bytes)) = some (some (.int .u8 0), 1, 1) := by kernel_rfl

theorem Own.cast {w : World} {v : Value} {xs ys : List Int} (h : Own w v xs) (e : ys = xs) : Own w v ys := e ▸ h

theorem own_store {w : World} {g n : Nat} {cap : Nat} {xs : List Int} (h : Own w (.slice (some ⟨g, 0, none⟩) n cap) xs) (hn : n = xs.length) (j : Nat) (u : Int) : Own (w.setCell ⟨g, j, none⟩ (.int .u8 u)) (.slice (some ⟨g, 0, none⟩) n cap) (xs.set j u) := by
  subst hn
  have := World.ownsRow.stored h j (.int .u8 u)
  unfold Own
  rw [List.length_set]
  have e : cellsOf8 (xs.set j u) = (cellsOf8 xs).set j (.int .u8 u) := by simp [cellsOf8]
  rw [e]
  exact this.1

theorem set_take (xs : List Int) (k : Nat) (hk : k < xs.length) : (xs.take k ++ List.replicate (xs.length - k) 0).set k xs[k] = xs.take (k + 1) ++ List.replicate (xs.length - (k + 1)) 0 := by
  have h1 : (xs.take k).length = k := by simp; omega
  have h2 : xs.length - k = (xs.length - (k + 1)) + 1 := by omega
  rw [List.set_append_right _ _ (by omega), h1, Nat.sub_self, h2, List.replicate_succ, List.set_cons_zero, List.take_succ_eq_append_getElem hk, List.append_assoc]
  rfl

theorem own_made {w : World} {g n : Nat} (h : w.ownsRow 0 5 1 (.slice (some ⟨g, 0, none⟩) n n) n (madeCells (Value.int .u8 0).cells (n * 1)).toList) : Own w (.slice (some ⟨g, 0, none⟩) n n) (List.replicate n 0) := by
  unfold Own cellsOf8
  rw [List.length_replicate, List.map_replicate]
  have e : (madeCells (Value.int .u8 0).cells (n * 1)).toList = List.replicate n (Value.int .u8 0) := by
    rw [Nat.mul_one]
    exact toList_madeCells_one (Value.int .u8 0) n
  rw [e] at h
  exact h

theorem own_cell {w : World} {g n cap : Nat} {xs : List Int} (h : Own w (.slice (some ⟨g, 0, none⟩) n cap) xs) (hn : n = xs.length) (j : Nat) (hj : j < n) : ∃ u, w.cell? ⟨g, j, none⟩ = some u := by
  subst hn
  have := World.ownsRow.cellAt h j (by omega)
  rw [this]
  exact ⟨_, List.getElem?_eq_getElem (by rw [cellsOf8_length]; exact hj)⟩

theorem own_frozen {w : World} {g n cap : Nat} {xs : List Int} (h : Own w (.slice (some ⟨g, 0, none⟩) n cap) xs) (hn : n = xs.length) (j : Nat) : w.frozen? ⟨g, j, none⟩ = false := by
  subst hn
  exact World.ownsRow.frozenAt h j

set_option maxHeartbeats 1000000 in
theorem clone_empty (w : World) (x : Addr) (cap : Nat) :
    Calls Try.prog 10 #[.slice (some x) 0 cap] w fun e w' => ∃ g, e = .returned (.slice (some ⟨g, 0, none⟩) 0 0) ∧ Own w' (.slice (some ⟨g, 0, none⟩) 0 0) [] ∧ g = w.heap.size ∧ Below w.heap.size w w' := by
  obtain ⟨i0, hi, hz0, hz1, hz2⟩ := info_parts info5
  have q22 : ∀ (w : World) (a : Option Addr) (n c n' c' : Nat), (binOp .eql 22 (.slice a n c) (.slice none n' c')).run Try.prog w = .ok (.bool a.isNone) w := fun w a n c n' c' => Lib.run_eql_slice_nil w _ _ a n c n' c' Try.underlying22
  go_enter Try.func10, Try.ntmps10
  go_wp2_with (at_make; refine wpList_make_full _ rfl _ _ 22 rfl 0 5 i0 (.int .u8 0) 1 Try.underlying22 hi hz0 hz1 _ _ _ _ 0 rfl rfl rfl rfl (by omega) (by unfold maxLen; omega) (Nat.zero_le _) ?_; intro w1 hown1 hgrow1)
  refine wp_loop_rounds 1 ?_
  rw [rounds_succ]
  go_wp2
  go_ret
  exact ⟨_, rfl, own_made hown1, rfl, (Below.refl _ _).grown hgrow1 (Nat.le_refl _) (by simp)⟩

set_option maxHeartbeats 1000000 in
theorem clone_full (w : World) (b off n cap : Nat) (xs : List Int) (hn : xs.length = n) (hnb : n ≤ 2000000) (hx : ∀ j (hj : j < xs.length), w.cell? ⟨b, off + j, none⟩ = some (.int .u8 xs[j])) :
    Calls Try.prog 10 #[.slice (some ⟨b, off, none⟩) n cap] w fun e w' => ∃ g, e = .returned (.slice (some ⟨g, 0, none⟩) n n) ∧ Own w' (.slice (some ⟨g, 0, none⟩) n n) xs ∧ g = w.heap.size ∧ Below w.heap.size w w' := by
  obtain ⟨i0, hi, hz0, hz1, hz2⟩ := info_parts info5
  have q22 : ∀ (w : World) (a : Option Addr) (n c n' c' : Nat), (binOp .eql 22 (.slice a n c) (.slice none n' c')).run Try.prog w = .ok (.bool a.isNone) w := fun w a n c n' c' => Lib.run_eql_slice_nil w _ _ a n c n' c' Try.underlying22
  have HX : Hid (∀ j (hj : j < xs.length), w.cell? ⟨b, off + j, none⟩ = some (.int .u8 xs[j])) := hx
  have Hn : Hid (xs.length = n) := hn
  clear hx hn
  go_enter Try.func10, Try.ntmps10
  go_wp2_with (at_make; refine wpList_make_full _ rfl _ _ 22 rfl 0 5 i0 (.int .u8 0) 1 Try.underlying22 hi hz0 hz1 _ _ _ _ n rfl rfl rfl rfl (by rw [hz2]; omega) (by unfold maxLen; omega) (Nat.zero_le _) ?_; intro w1 hown1 hgrow1)
  have ho1 := own_made hown1
  have hb1 : Below w.heap.size w w1 := (Below.refl _ _).grown hgrow1 (Nat.le_refl _) (by simp)
  clear hown1 hgrow1
  go_loopw [4] (fun i wr => ∃ k : Nat, k ≤ n ∧ i = .int .i64 k ∧ Hid (Own wr (.slice (some ⟨w.heap.size, 0, none⟩) n n) (xs.take k ++ List.replicate (xs.length - k) 0)) ∧ Below w.heap.size w wr) (fun i _ => n - (intOf i).toNat)
  case atStart => exact ⟨0, Nat.zero_le _, rfl, by show Own _ _ _; simp only [List.take_zero, List.nil_append, Nat.sub_zero, Hn.out]; exact ho1, hb1⟩
  case round =>
    obtain ⟨k, hk, rfl, ho, hbr⟩ := hrel
    by_cases hlt : k < n
    · have hkx : k < xs.length := by rw [Hn.out]; exact hlt
      have hln : n = (xs.take k ++ List.replicate (xs.length - k) 0).length := by have := Hn.out; simp; omega
      have hc0 := HX.out k hkx
      have hbb : b < w.heap.size := World.block_lt_of_cell? w _ hc0
      have hc : wr.cell? ⟨b, off + k, none⟩ = some (.int .u8 xs[k]) := (hbr.cell (p := ⟨b, off + k, none⟩) hbb).trans hc0
      obtain ⟨u, hu⟩ := own_cell ho.out hln k hlt
      have hfz := own_frozen ho.out hln k
      have HO : Hid (Own (wr.setCell ⟨w.heap.size, k, none⟩ (.int .u8 xs[k])) (.slice (some ⟨w.heap.size, 0, none⟩) n n) (xs.take (k + 1) ++ List.replicate (xs.length - (k + 1)) 0)) := by
        show Own _ _ _
        rw [← set_take xs k hkx]
        exact own_store ho.out hln k xs[k]
      have HB : Hid (Below w.heap.size w (wr.setCell ⟨w.heap.size, k, none⟩ (.int .u8 xs[k]))) := hbr.setCell (Nat.le_refl _) _
      clear hln hc0 ho hbr
      go_wp2
      go_roundw
      case rel => exact ⟨k + 1, by omega, by go_num, HO, HB.out⟩
      case measure => simp [intOf]; omega
    · go_wp2
      go_ret
      have ek : k = n := by omega
      refine ⟨_, rfl, ?_, rfl, hbr⟩
      have := ho.out
      rw [ek, ← Hn.out, Nat.sub_self, List.take_length, List.replicate_zero, List.append_nil] at this
      rw [← Hn.out]
      exact this

/-- How a callee ends that makes a new byte slice holding xs. -/
def Makes (w : World) (xs : List Int) (e : Ending) (w' : World) : Prop := ∃ v', e = .returned v' ∧ Own w' v' xs ∧ Step w (.slice none 0 0) w' v'

theorem step_new {w w' : World} {g n cap : Nat} (hb : Below w.heap.size w w') (hg : w.heap.size ≤ g) : Step w (.slice none 0 0) w' (.slice (some ⟨g, 0, none⟩) n cap) :=
  ⟨⟨hb.os, hb.tape, hb.output, hb.size, fun k hk _ => hb.block k hk⟩, .inr ⟨g, rfl, hg⟩⟩

set_option maxHeartbeats 400000 in
theorem clone_nil (w : World) : Calls Try.prog 10 #[.slice none 0 0] w (Makes w []) := by
  have q22 : ∀ (w : World) (a : Option Addr) (n c n' c' : Nat), (binOp .eql 22 (.slice a n c) (.slice none n' c')).run Try.prog w = .ok (.bool a.isNone) w := fun w a n c n' c' => Lib.run_eql_slice_nil w _ _ a n c n' c' Try.underlying22
  go_enter Try.func10, Try.ntmps10
  go_wp2
  go_ret
  exact ⟨_, rfl, Own.nil _, Step.refl _ _⟩

theorem clone_at (w : World) (x : Addr) (n cap : Nat) (xs : List Int) (hn : xs.length = n) (hnb : n ≤ 2000000) (hx : ∀ j (hj : j < xs.length), w.cell? (x.add j) = some (.int .u8 xs[j])) :
    Calls Try.prog 10 #[.slice (some x) n cap] w (Makes w xs) := by
  by_cases h0 : n = 0
  · subst h0
    obtain rfl := List.eq_nil_of_length_eq_zero hn
    refine (clone_empty w x cap).mono ?_
    rintro e w' ⟨g, rfl, ho, rfl, hb⟩
    exact ⟨_, rfl, ho, step_new hb (Nat.le_refl _)⟩
  · obtain ⟨b, off, spot⟩ := x
    have hc := hx 0 (by omega)
    have hspot : spot = none := by simpa [Addr.add] using World.cell?_spot hc
    subst hspot
    refine (clone_full w b off n cap xs hn hnb (fun j hj => by rw [← hx j hj, Addr.add_lit])).mono ?_
    rintro e w' ⟨g, rfl, ho, rfl, hb⟩
    exact ⟨_, rfl, ho, step_new hb (Nat.le_refl _)⟩

theorem clone_own (w : World) (v : Value) (xs : List Int) (ho : Own w v xs) (hnb : xs.length ≤ 2000000) : Calls Try.prog 10 #[v] w (Makes w xs) := by
  rcases ho.form with ⟨rfl, rfl⟩ | ⟨g, cap, rfl, _, _, _, hcell⟩
  · exact clone_nil w
  · exact clone_at w ⟨g, 0, none⟩ xs.length cap xs rfl hnb (fun j hj => by rw [Addr.add_lit, Nat.zero_add]; exact hcell j hj)

end Go.Proofs.Qxb6601381a
