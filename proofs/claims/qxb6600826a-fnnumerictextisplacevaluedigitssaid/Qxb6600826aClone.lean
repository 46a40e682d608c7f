/- The walks of cloneBytes (17), bytesEqual (24), digitAt (31). -/
import Derived.Test.Qxb6600826aCalls
import Derived.BigQuiet
import Derived.Deep.QuietTactic
import Derived.WalkSpells
namespace Go.Proofs.Qxb6600826a
open Go.RowKit

/-- A byte slice that can be read: nil, or its cells lie behind its address. -/
def Bytes (w : World) (a : Option Addr) (n : Nat) (xs : List Int) : Prop :=
  xs.length = n ∧ (a = none → n = 0) ∧ ∀ j (hj : j < xs.length), ∃ x, a = some x ∧ w.cell? (x.add j) = some (.int .u8 xs[j])

theorem own_store {w : World} {g n : Nat} {cap : Nat} {xs : List Int} (h : Own w (.slice (some ⟨g, 0, none⟩) n cap) xs) (hn : n = xs.length) (j : Nat) (u : Int) : Own (w.setCell ⟨g, j, none⟩ (.int .u8 u)) (.slice (some ⟨g, 0, none⟩) n cap) (xs.set j u) := by
  subst hn
  have := World.ownsRow.stored h j (.int .u8 u)
  unfold Own
  rw [List.length_set]
  have e : cellsOf8 (xs.set j u) = (cellsOf8 xs).set j (.int .u8 u) := by simp [cellsOf8]
  rw [e]
  exact this.1

theorem set_take (xs : List Int) (k : Nat) (hk : k < xs.length) : (xs.take k ++ List.replicate (xs.length - k) 0).set k xs[k] = xs.take (k + 1) ++ List.replicate (xs.length - (k + 1)) 0 := by
  have h1 : (xs.take k).length = k := by simp; omega
  have h2 : xs.length - k = (xs.length - (k + 1)) + 1 := by omega
  rw [List.set_append_right _ _ (by omega), h1, Nat.sub_self, h2, List.replicate_succ, List.set_cons_zero, List.take_succ_eq_append_getElem hk, List.append_assoc]
  rfl

theorem own_made {w : World} {g n : Nat} (h : w.ownsRow 0 5 1 (.slice (some ⟨g, 0, none⟩) n n) n (madeCells (Value.int .u8 0).cells (n * 1)).toList) : Own w (.slice (some ⟨g, 0, none⟩) n n) (List.replicate n 0) := by
  unfold Own cellsOf8
  rw [List.length_replicate, List.map_replicate]
  have e : (madeCells (Value.int .u8 0).cells (n * 1)).toList = List.replicate n (Value.int .u8 0) := by
    rw [Nat.mul_one]
    exact toList_madeCells_one (Value.int .u8 0) n
  rw [e] at h
  exact h

theorem own_cell {w : World} {g n cap : Nat} {xs : List Int} (h : Own w (.slice (some ⟨g, 0, none⟩) n cap) xs) (hn : n = xs.length) (j : Nat) (hj : j < n) : ∃ u, w.cell? ⟨g, j, none⟩ = some u := by
  subst hn
  have := World.ownsRow.cellAt h j (by omega)
  rw [this]
  exact ⟨_, List.getElem?_eq_getElem (by rw [cellsOf8_length]; exact hj)⟩

theorem own_frozen {w : World} {g n cap : Nat} {xs : List Int} (h : Own w (.slice (some ⟨g, 0, none⟩) n cap) xs) (hn : n = xs.length) (j : Nat) : w.frozen? ⟨g, j, none⟩ = false := by
  subst hn
  exact World.ownsRow.frozenAt h j

set_option maxHeartbeats 1000000 in
theorem clone_empty (w : World) (x : Addr) (cap : Nat) :
    Calls Try.prog 17 #[.slice (some x) 0 cap] w fun e w' => ∃ g, e = .returned (.slice (some ⟨g, 0, none⟩) 0 0) ∧ Own w' (.slice (some ⟨g, 0, none⟩) 0 0) [] ∧ g = w.heap.size ∧ Below w.heap.size w w' := by
  obtain ⟨i0, hi, hz0, hz1, hz2⟩ := info_parts info5
  have q27 : ∀ (w : World) (a : Option Addr) (n c n' c' : Nat), (binOp .eql 27 (.slice a n c) (.slice none n' c')).run Try.prog w = .ok (.bool a.isNone) w := fun w a n c n' c' => Lib.run_eql_slice_nil w _ _ a n c n' c' Try.underlying27
  go_enter Try.func17, Try.ntmps17
  go_wp2_with (at_make; refine wpList_make_full _ rfl _ _ 27 rfl 0 5 i0 (.int .u8 0) 1 Try.underlying27 hi hz0 hz1 _ _ _ _ 0 rfl rfl rfl rfl (by omega) (by unfold maxLen; omega) (Nat.zero_le _) ?_; intro w1 hown1 hgrow1)
  refine wp_loop_rounds 1 ?_
  rw [rounds_succ]
  go_wp2
  go_ret
  exact ⟨_, rfl, own_made hown1, rfl, (Below.refl _ _).grown hgrow1 (Nat.le_refl _) (by simp)⟩

set_option maxHeartbeats 1000000 in
theorem clone_full (w : World) (b off n cap : Nat) (xs : List Int) (hn : xs.length = n) (hnb : n ≤ 1000000) (hx : ∀ j (hj : j < xs.length), w.cell? ⟨b, off + j, none⟩ = some (.int .u8 xs[j])) :
    Calls Try.prog 17 #[.slice (some ⟨b, off, none⟩) n cap] w fun e w' => ∃ g, e = .returned (.slice (some ⟨g, 0, none⟩) n n) ∧ Own w' (.slice (some ⟨g, 0, none⟩) n n) xs ∧ g = w.heap.size ∧ Below w.heap.size w w' := by
  obtain ⟨i0, hi, hz0, hz1, hz2⟩ := info_parts info5
  have q27 : ∀ (w : World) (a : Option Addr) (n c n' c' : Nat), (binOp .eql 27 (.slice a n c) (.slice none n' c')).run Try.prog w = .ok (.bool a.isNone) w := fun w a n c n' c' => Lib.run_eql_slice_nil w _ _ a n c n' c' Try.underlying27
  have HX : Hid (∀ j (hj : j < xs.length), w.cell? ⟨b, off + j, none⟩ = some (.int .u8 xs[j])) := hx
  have Hn : Hid (xs.length = n) := hn
  clear hx hn
  go_enter Try.func17, Try.ntmps17
  go_wp2_with (at_make; refine wpList_make_full _ rfl _ _ 27 rfl 0 5 i0 (.int .u8 0) 1 Try.underlying27 hi hz0 hz1 _ _ _ _ n rfl rfl rfl rfl (by rw [hz2]; omega) (by unfold maxLen; omega) (Nat.zero_le _) ?_; intro w1 hown1 hgrow1)
  have ho1 := own_made hown1
  have hb1 : Below w.heap.size w w1 := (Below.refl _ _).grown hgrow1 (Nat.le_refl _) (by simp)
  clear hown1 hgrow1
  go_loopw [4] (fun i wr => ∃ k : Nat, k ≤ n ∧ i = .int .i64 k ∧ Hid (Own wr (.slice (some ⟨w.heap.size, 0, none⟩) n n) (xs.take k ++ List.replicate (xs.length - k) 0)) ∧ Below w.heap.size w wr) (fun i _ => n - (intOf i).toNat)
  case atStart => exact ⟨0, Nat.zero_le _, rfl, by show Own _ _ _; simp only [List.take_zero, List.nil_append, Nat.sub_zero, Hn.out]; exact ho1, hb1⟩
  case round =>
    obtain ⟨k, hk, rfl, ho, hbr⟩ := hrel
    by_cases hlt : k < n
    · have hkx : k < xs.length := by rw [Hn.out]; exact hlt
      have hln : n = (xs.take k ++ List.replicate (xs.length - k) 0).length := by have := Hn.out; simp; omega
      have hc0 := HX.out k hkx
      have hbb : b < w.heap.size := World.block_lt_of_cell? w _ hc0
      have hc : wr.cell? ⟨b, off + k, none⟩ = some (.int .u8 xs[k]) := (hbr.cell (p := ⟨b, off + k, none⟩) hbb).trans hc0
      obtain ⟨u, hu⟩ := own_cell ho.out hln k hlt
      have hfz := own_frozen ho.out hln k
      have HO : Hid (Own (wr.setCell ⟨w.heap.size, k, none⟩ (.int .u8 xs[k])) (.slice (some ⟨w.heap.size, 0, none⟩) n n) (xs.take (k + 1) ++ List.replicate (xs.length - (k + 1)) 0)) := by
        show Own _ _ _
        rw [← set_take xs k hkx]
        exact own_store ho.out hln k xs[k]
      have HB : Hid (Below w.heap.size w (wr.setCell ⟨w.heap.size, k, none⟩ (.int .u8 xs[k]))) := hbr.setCell (Nat.le_refl _) _
      clear hln hc0 ho hbr
      go_wp2
      go_roundw
      case rel => exact ⟨k + 1, by omega, by go_num, HO, HB.out⟩
      case measure => simp [intOf]; omega
    · go_wp2
      go_ret
      have ek : k = n := by omega
      refine ⟨_, rfl, ?_, rfl, hbr⟩
      have := ho.out
      rw [ek, ← Hn.out, Nat.sub_self, List.take_length, List.replicate_zero, List.append_nil] at this
      rw [← Hn.out]
      exact this

/-- How a callee ends that makes a new byte slice holding xs. -/
def Makes (w : World) (xs : List Int) (e : Ending) (w' : World) : Prop := ∃ v', e = .returned v' ∧ Own w' v' xs ∧ Step w (.slice none 0 0) w' v'

theorem step_new {w w' : World} {g n cap : Nat} (hb : Below w.heap.size w w') (hg : w.heap.size ≤ g) : Step w (.slice none 0 0) w' (.slice (some ⟨g, 0, none⟩) n cap) :=
  ⟨⟨hb.os, hb.tape, hb.output, hb.size, fun k hk _ => hb.block k hk⟩, .inr ⟨g, rfl, hg⟩⟩

set_option maxHeartbeats 400000 in
theorem clone_nil (w : World) : Calls Try.prog 17 #[.slice none 0 0] w (Makes w []) := by
  have q27 : ∀ (w : World) (a : Option Addr) (n c n' c' : Nat), (binOp .eql 27 (.slice a n c) (.slice none n' c')).run Try.prog w = .ok (.bool a.isNone) w := fun w a n c n' c' => Lib.run_eql_slice_nil w _ _ a n c n' c' Try.underlying27
  go_enter Try.func17, Try.ntmps17
  go_wp2
  go_ret
  exact ⟨_, rfl, Own.nil _, Step.refl _ _⟩

theorem clone_at (w : World) (x : Addr) (n cap : Nat) (xs : List Int) (hn : xs.length = n) (hnb : n ≤ 1000000) (hx : ∀ j (hj : j < xs.length), w.cell? (x.add j) = some (.int .u8 xs[j])) :
    Calls Try.prog 17 #[.slice (some x) n cap] w (Makes w xs) := by
  by_cases h0 : n = 0
  · subst h0
    obtain rfl := List.eq_nil_of_length_eq_zero hn
    refine (clone_empty w x cap).mono ?_
    rintro e w' ⟨g, rfl, ho, rfl, hb⟩
    exact ⟨_, rfl, ho, step_new hb (Nat.le_refl _)⟩
  · obtain ⟨b, off, spot⟩ := x
    have hc := hx 0 (by omega)
    have hspot : spot = none := by simpa [Addr.add] using World.cell?_spot hc
    subst hspot
    refine (clone_full w b off n cap xs hn hnb (fun j hj => by rw [← hx j hj, Addr.add_lit])).mono ?_
    rintro e w' ⟨g, rfl, ho, rfl, hb⟩
    exact ⟨_, rfl, ho, step_new hb (Nat.le_refl _)⟩

theorem clone_own (w : World) (v : Value) (xs : List Int) (ho : Own w v xs) (hnb : xs.length ≤ 1000000) : Calls Try.prog 17 #[v] w (Makes w xs) := by
  rcases ho.form with ⟨rfl, rfl⟩ | ⟨g, cap, rfl, _, _, _, hcell⟩
  · exact clone_nil w
  · exact clone_at w ⟨g, 0, none⟩ xs.length cap xs rfl hnb (fun j hj => by rw [Addr.add_lit, Nat.zero_add]; exact hcell j hj)

set_option maxHeartbeats 1000000 in
theorem equal_empty (w : World) (a b : Option Addr) (c d : Nat) : Calls Try.prog 24 #[.slice a 0 c, .slice b 0 d] w fun e w' => e = .returned (.bool true) ∧ Below w.heap.size w w' := by
  go_enter Try.func24, Try.ntmps24
  go_wp2
  refine wp_loop_rounds 1 ?_
  rw [rounds_succ]
  go_wp2
  go_ret
  exact ⟨rfl, Below.refl _ _⟩

set_option maxHeartbeats 1000000 in
theorem equal_full (w : World) (g h n c d : Nat) (xs : List Int) (hn : xs.length = n) (hnb : n ≤ 1000000) (hg : ∀ j (hj : j < xs.length), w.cell? ⟨g, j, none⟩ = some (.int .u8 xs[j])) (hh : ∀ j (hj : j < xs.length), w.cell? ⟨h, j, none⟩ = some (.int .u8 xs[j])) :
    Calls Try.prog 24 #[.slice (some ⟨g, 0, none⟩) n c, .slice (some ⟨h, 0, none⟩) n d] w fun e w' => e = .returned (.bool true) ∧ Below w.heap.size w w' := by
  have HG : Hid (∀ j (hj : j < xs.length), w.cell? ⟨g, j, none⟩ = some (.int .u8 xs[j])) := hg
  have HH : Hid (∀ j (hj : j < xs.length), w.cell? ⟨h, j, none⟩ = some (.int .u8 xs[j])) := hh
  have Hn : Hid (xs.length = n) := hn
  clear hg hh hn
  go_enter Try.func24, Try.ntmps24
  go_wp2
  go_loopw [5] (fun i wr => ∃ k : Nat, k ≤ n ∧ i = .int .i64 k ∧ ∃ q, wr = w.drewN q) (fun i _ => n - (intOf i).toNat)
  case atStart => exact ⟨0, Nat.zero_le _, rfl, 0, rfl⟩
  case round =>
    obtain ⟨k, hk, rfl, q, rfl⟩ := hrel
    by_cases hlt : k < n
    · have hkx : k < xs.length := by rw [Hn.out]; exact hlt
      have c1 := HG.out k hkx
      have c2 := HH.out k hkx
      go_wp2
      go_quiet (fail)
      go_wp2
      go_roundw
      case rel => exact ⟨k + 1, by omega, by go_num, _, rfl⟩
      case measure => simp [intOf]; omega
    · go_wp2
      go_ret
      exact ⟨rfl, below_drewN (Below.refl _ _) _⟩

theorem equal_own (w : World) (u v : Value) (xs : List Int) (hu : Own w u xs) (hv : Own w v xs) (hnb : xs.length ≤ 1000000) : Calls Try.prog 24 #[u, v] w fun e w' => e = .returned (.bool true) ∧ Below w.heap.size w w' := by
  rcases hu.form with ⟨rfl, rfl⟩ | ⟨g, c, rfl, _, _, _, hg⟩
  · rcases hv.form with ⟨rfl, _⟩ | ⟨h, d, rfl, _, _, _, _⟩
    · exact equal_empty w none none 0 0
    · exact equal_empty w none _ 0 d
  · rcases hv.form with ⟨rfl, rfl⟩ | ⟨h, d, rfl, _, _, _, hh⟩
    · exact equal_empty w _ none c 0
    · exact equal_full w g h xs.length c d xs rfl hnb hg hh

/-- The digit of index k: a byte of B, or the zero digit. -/
def digAt (B : List Int) (k : Int) : Int := if 0 ≤ k ∧ k < B.length then B.getD k.toNat 0 else 48

theorem ret_int {k : IntKind} {a b : Int} (h : a = b) : Ending.returned (.int k a) = .returned (.int k b) := by rw [h]

theorem digAt_in (D : ByteArray) (k : Nat) (h : k < D.size) : digAt (bytesOf D) (k : Int) = ((D[k]'h).toNat : Int) := by
  unfold digAt
  rw [if_pos ⟨by omega, by rw [bytesOf_length]; omega⟩, Int.toNat_natCast, List.getD_eq_getElem?_getD, bytes_get D k h]
  rfl

theorem digAt_out (B : List Int) (k : Int) (h : k < 0 ∨ (B.length : Int) ≤ k) : digAt B k = 48 := by
  unfold digAt
  rw [if_neg (by omega)]

set_option maxHeartbeats 400000 in
theorem digit_any (D : ByteArray) (point e : Int) (w : World) (hD : D.size ≤ 65536) (h1 : -65536 ≤ point) (h2 : point ≤ 65536) (h3 : -65536 ≤ e) (h4 : e ≤ 65536) :
    Calls Try.prog 31 #[.string D, .int .i64 point, .int .i64 e] w fun r w' => r = .returned (.int .u8 (digAt (bytesOf D) (point - 1 - e))) ∧ w' = w := by
  by_cases hk : 0 ≤ point - 1 - e ∧ point - 1 - e < D.size
  · obtain ⟨hk1, hk2⟩ := hk
    obtain ⟨k, hk⟩ : ∃ k : Nat, point - 1 - e = (k : Int) := ⟨(point - 1 - e).toNat, by omega⟩
    have hkD : k < D.size := by omega
    go_enter Try.func31, Try.ntmps31
    go_wp2
    go_ret
    exact ⟨ret_int (by rw [hk]; exact (digAt_in D k hkD).symm), rfl⟩
  · have hq : digAt (bytesOf D) (point - 1 - e) = 48 := digAt_out _ _ (by rw [bytesOf_length]; omega)
    have HQ : Hid (digAt (bytesOf D) (point - 1 - e) = 48) := hq
    clear hq
    by_cases h0 : 0 ≤ point - 1 - e
    · have hge : (D.size : Int) ≤ point - 1 - e := by omega
      clear hk
      go_enter Try.func31, Try.ntmps31
      go_wp2
      go_ret
      exact ⟨ret_int HQ.out.symm, rfl⟩
    · clear hk
      go_enter Try.func31, Try.ntmps31
      go_wp2
      go_ret
      exact ⟨ret_int HQ.out.symm, rfl⟩

end Go.Proofs.Qxb6600826a
