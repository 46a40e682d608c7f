/- The walk of FnCompactIntegerReadsWrittenInteger (7). -/
import Derived.Test.Qxb6601381aMatch
import Derived.Test.Qxb6601381aFormat
namespace Go.Proofs.Qxb6601381a
open Go.RowKit

theorem own_slice {w : World} {v : Value} {xs : List Int} (h : Own w v xs) : ∃ a c, v = .slice a xs.length c := by
  rcases h.form with ⟨rfl, rfl⟩ | ⟨g, cap, rfl, _⟩
  · exact ⟨none, 0, rfl⟩
  · exact ⟨_, _, rfl⟩

/-- As 'Makes', the new slice written out. -/
theorem Makes.out {w : World} {xs : List Int} {e : Ending} {w' : World} (h : Makes w xs e w') (n : Nat) (hn : xs.length = n) : ∃ a c, e = .returned (.slice a n c) ∧ Own w' (.slice a n c) xs ∧ Step w (.slice none 0 0) w' (.slice a n c) := by
  subst hn
  obtain ⟨v, rfl, ho, hs⟩ := h
  obtain ⟨a, c, rfl⟩ := own_slice ho
  exact ⟨a, c, rfl, ho, hs⟩

theorem srcOwn (w : World) (v : Value) (xs : List Int) (h : Own w v xs) : Src Try.prog 1 22 v xs.length (cellsOf8 xs) w := by
  rcases h.form with ⟨rfl, rfl⟩ | ⟨g, cap, rfl, _, _, _, hcell⟩
  · exact srcNil w Try.underlying22 0
  · exact srcBytes w Try.underlying22 ⟨g, 0, none⟩ cap xs (fun j hj => by rw [Addr.add_lit, Nat.zero_add]; exact hcell j hj)

/-- u lies apart from v. -/
def Apart (u v : Value) : Prop := u.ownBlock = none ∨ u.ownBlock ≠ v.ownBlock

theorem keep_new {w w' : World} {u v : Value} {xs : List Int} (hu : Own w u xs) (hs : Step w (.slice none 0 0) w' v) : Own w' u xs :=
  hs.kept hu (by cases h : u.ownBlock with | none => exact .inl rfl | some k => exact .inr (by simp [Value.ownBlock]))

theorem apart_new {w w' : World} {u v : Value} {xs : List Int} (hu : Own w u xs) (hs : Step w (.slice none 0 0) w' v) : Apart u v := by
  cases h : u.ownBlock with
  | none => exact .inl h
  | some k =>
    refine .inr (fun e => ?_)
    have hk := (World.ownsRow.lt hu k h).2
    rcases hs.lies with e2 | ⟨m, e2, hm⟩
    · rw [h, e2] at e; cases e
    · rw [h, e2] at e; cases e; omega

theorem keep_step {w w' : World} {u v v' : Value} {xs : List Int} (hu : Own w u xs) (hs : Step w v w' v') (h : Apart u v) : Own w' u xs ∧ Apart u v' := by
  refine ⟨hs.kept hu h, ?_⟩
  cases hk : u.ownBlock with
  | none => exact .inl hk
  | some k =>
    refine .inr (fun e => ?_)
    have hlt := (World.ownsRow.lt hu k hk).2
    rcases hs.lies with e2 | ⟨m, e2, hm⟩
    · rw [e2] at e
      rcases h with h | h
      · rw [h] at hk; cases hk
      · exact h e
    · rw [hk, e2] at e; cases e; omega

set_option maxHeartbeats 400000 in
theorem short_fn (v : Int) (w : World) : Calls Try.prog 14 #[.int .i64 v] w fun e w' => e = .returned (.bool (decide (-1000000000000000000 < v) && decide (v < 1000000000000000000))) ∧ w = w' := by
  by_cases h : -1000000000000000000 < v
  · go_enter Try.func14, Try.ntmps14
    go_wp2
    go_ret
    exact ⟨ret_bool (by simp [h]), rfl⟩
  · go_enter Try.func14, Try.ntmps14
    go_wp2
    go_ret
    exact ⟨ret_bool (by rw [decide_eq_false (by omega : ¬ -1000000000000000000 < v)]; rfl), rfl⟩

theorem short_sb (v : Int) (sb : Bool) (h : (decide (-1000000000000000000 < v) && decide (v < 1000000000000000000)) = sb) (w : World) : Calls Try.prog 14 #[.int .i64 v] w fun e w' => e = .returned (.bool sb) ∧ w = w' := by
  subst h
  exact short_fn v w

set_option maxHeartbeats 400000 in
theorem fits_fn (v bs : Int) (w : World) (hv1 : -9223372036854775808 ≤ v) (hv2 : v ≤ 9223372036854775807) (h1 : 1 ≤ bs) (h2 : bs ≤ 9223372036854775807) :
    Calls Try.prog 15 #[.int .i64 v, .int .i64 bs] w fun e w' => e = .returned (.bool (fitsB bs v)) ∧ w = w' := by
  by_cases h : v < 0
  · have e1 : sgn true (-(v + 1) + 1) = v := by unfold sgn; rw [if_pos rfl]; omega
    have E1 : Hid (sgn true (-(v + 1) + 1) = v) := e1
    clear e1
    go_enter Try.func15, Try.ntmps15
    go_wp2_with fail
    refine (mag_any true (-(v + 1) + 1) bs _ h1 h2 (by omega)).mono ?_
    rw [E1.out]
    rintro e w2 ⟨rfl, hw⟩
    obtain rfl := hw.symm
    go_wp2
    go_ret
    exact ⟨rfl, rfl⟩
  · go_enter Try.func15, Try.ntmps15
    go_wp2_with fail
    refine (mag_any false v bs _ h1 h2 (by omega)).mono ?_
    rintro e w2 ⟨rfl, hw⟩
    obtain rfl := hw.symm
    go_wp2
    go_ret
    exact ⟨rfl, rfl⟩

set_option maxHeartbeats 400000 in
theorem zb_written (a0 a2 : Option Addr) (n0 c0 n2 c2 : Nat) (v n bs : Int) (w : World) (h : n0 + n2 ≤ 1048576) :
    Calls Try.prog 20 #[.slice a0 n0 c0, .int .i64 v, .slice a2 n2 c2, .int .i64 n, .int .i64 bs] w fun e w' => e = .returned (.bool true) ∧ w = w' := by
  go_enter Try.func20, Try.ntmps20
  go_wp2
  go_ret
  exact ⟨rfl, rfl⟩

/-- All that follows the test on the suffix. -/
structure Ready (w : World) (a0 a2 : Option Addr) (n0 c0 n2 c2 : Nat) (P S : List Int) : Prop where
  lp : P.length = n0
  ls : S.length = n2
  kp : Calls Try.prog 10 #[.slice a0 n0 c0] w (Makes w P)
  ks : ∀ W, Below w.heap.size w W → Calls Try.prog 10 #[.slice a2 n2 c2] W (Makes W S)
  hd : 0 < n2 → ∃ b off y r, a2 = some ⟨b, off, none⟩ ∧ S = y :: r ∧ w.cell? ⟨b, off, none⟩ = some (.int .u8 y)

set_option maxRecDepth 100000 in
set_option maxHeartbeats 2000000 in
theorem written_tail (a0 a2 : Option Addr) (n0 c0 n2 c2 : Nat) (P S : List Int) (v n bs : Int) (w : World) (R : Hid (Ready w a0 a2 n0 c0 n2 c2 P S)) (hl : n0 + n2 ≤ 1048576) (hv1 : -9223372036854775808 ≤ v) (hv2 : v ≤ 9223372036854775807) (h1 : 1 ≤ bs) (h2 : bs ≤ 9223372036854775807)
    (hS : Hid (v = 0 ∨ ∀ c, S.head? = some c → isDig c = false)) (hz : ((v != 0) = false) ∨ ((v != 0) = true ∧ n2 = 0) ∨ ((v != 0) = true ∧ 0 < n2)) :
    Calls Try.prog 7 #[.slice a0 n0 c0, .int .i64 v, .slice a2 n2 c2, .int .i64 n, .int .i64 bs] w fun e w' => e = .returned (.bool true) ∧ Below w.heap.size w w' := by
  obtain ⟨i0, hi, hz0, hz1, hz2⟩ := info_parts info5
  go_enter Try.func7, Try.ntmps7
  go_upto_region 7 with (go_at_call 20; refine (zb_written _ _ _ _ _ _ _ _ _ _ hl).mono ?_; rintro e w2 ⟨rfl, rfl⟩)
  go_cut [54] (fun b wx => b = .bool false ∧ w = wx)
  case first =>
    rcases hz with hz | ⟨hz, hn2⟩ | ⟨hz, hn2⟩
    · go_wp2
      go_meet
      case rel => exact ⟨rfl, rfl⟩
    · have hn2' : ¬ (0 : Int) < (n2 : Int) := by omega
      have HN2 : Hid (n2 = 0) := hn2
      clear hn2
      go_wp2
      go_meet
      case rel => exact ⟨rfl, rfl⟩
    · obtain ⟨b, off, y, r, rfl, eS, hy⟩ := R.out.hd hn2
      have hv0 : ¬ v = 0 := by simpa using hz
      have hyd : isDig y = false := (hS.out.resolve_left hv0) y (by rw [eS]; rfl)
      clear eS hv0
      go_wp2_with (go_at_call 21; refine (dig_any _ _).mono ?_; rintro e w3 ⟨rfl, rfl⟩)
      go_meet
      case rel => exact ⟨rfl, rfl⟩
  case rest =>
    obtain ⟨rfl, rfl⟩ := hcut
    clear hz
    have hln0 : P.length ≤ 1048576 := by rw [R.out.lp]; omega
    have hln2 : S.length ≤ 1048576 := by rw [R.out.ls]; omega
    go_wp2_with fail
    refine R.out.kp.mono ?_
    intro e w1 hmk
    obtain ⟨a1, k1, rfl, ho1, hs1⟩ := hmk.out n0 R.out.lp
    have HP1 : Hid (Own w1 (.slice a1 n0 k1) P) := ho1
    have Hs1 : Hid (Step w (.slice none 0 0) w1 (.slice a1 n0 k1)) := hs1
    clear hmk ho1 hs1
    go_wp2_with fail
    refine (R.out.ks w1 (step_below Hs1.out)).mono ?_
    intro e w2 hmk
    obtain ⟨a3, k3, rfl, ho2, hs2⟩ := hmk.out n2 R.out.ls
    have HS2 : Hid (Own w2 (.slice a3 n2 k3) S) := ho2
    have HP2 : Hid (Own w2 (.slice a1 n0 k1) P) := keep_new HP1.out hs2
    have Hb2 : Hid (Below w.heap.size w w2) := (step_below Hs1.out).trans ((step_below hs2).mono (step_below Hs1.out).size)
    clear hmk ho2 hs2
    obtain ⟨T, hT⟩ : ∃ T, T = fmtL v := ⟨_, rfl⟩
    have HT : Hid (T = fmtL v) := hT
    obtain ⟨t, ht⟩ : ∃ t, T.length = t := ⟨_, rfl⟩
    have Ht : Hid (T.length = t) := ht
    have ht20 : t ≤ 20 := by
      rw [← ht, hT]
      have := magL_len19 v.natAbs
      unfold fmtL
      split <;> simp <;> omega
    clear ht hT
    go_wp2_with fail
    refine (fmt_any v w2 hv1 hv2).mono ?_
    intro e w3 hmk
    rw [← HT.out] at hmk
    obtain ⟨a4, k4, rfl, ho3, hs3⟩ := hmk.out t Ht.out
    have HT3 : Hid (Own w3 (.slice a4 t k4) T) := ho3
    have HS3 : Hid (Own w3 (.slice a3 n2 k3) S) := keep_new HS2.out hs3
    have HP3 : Hid (Own w3 (.slice a1 n0 k1) P) := keep_new HP2.out hs3
    have Hb3 : Hid (Below w.heap.size w w3) := Hb2.out.trans ((step_below hs3).mono Hb2.out.size)
    clear hmk ho3 hs3 HP1 HS2 HP2
    go_upto_region 13 with (at_make; refine wpList_make_own _ rfl _ _ 22 rfl 0 5 i0 (.int .u8 0) 1 Try.underlying22 hi hz0 hz1 _ _ _ (n0 + t + n2) rfl rfl (by omega) (by rw [hz2]; omega) (by unfold maxLen; omega) (Nat.zero_le _) ?_; intro w4 hown4 hgrow4)
    have hs4 : Step w3 (.slice none 0 0) w4 (.slice (some ⟨w3.heap.size, 0, none⟩) 0 (n0 + t + n2)) := ⟨hgrow4, .inr ⟨_, rfl, Nat.le_refl _⟩⟩
    have HO4 : Hid (Own w4 (.slice (some ⟨w3.heap.size, 0, none⟩) 0 (n0 + t + n2)) []) := hown4
    have HP4 : Hid (Own w4 (.slice a1 n0 k1) P) := keep_new HP3.out hs4
    have HT4 : Hid (Own w4 (.slice a4 t k4) T ∧ Apart (.slice a4 t k4) (.slice (some ⟨w3.heap.size, 0, none⟩) 0 (n0 + t + n2))) := ⟨keep_new HT3.out hs4, apart_new HT3.out hs4⟩
    have HS4 : Hid (Own w4 (.slice a3 n2 k3) S ∧ Apart (.slice a3 n2 k3) (.slice (some ⟨w3.heap.size, 0, none⟩) 0 (n0 + t + n2))) := ⟨keep_new HS3.out hs4, apart_new HS3.out hs4⟩
    have Hb4 : Hid (Below w.heap.size w w4) := Hb3.out.trans ((step_below hs4).mono Hb3.out.size)
    have Hvb : Hid (∀ k, (Value.slice (some ⟨w3.heap.size, 0, none⟩) 0 (n0 + t + n2)).ownBlock = some k → w.heap.size ≤ k) := by
      intro k hk
      simp [Value.ownBlock] at hk
      have := Hb3.out.size
      omega
    clear hown4 hgrow4 hs4 HP3 HT3 HS3
    go_upto_region 14 with (at_builtin; refine wpList_append_step _ rfl _ _ 22 22 rfl i0 Try.underlying22 hi hz0 hz1 hz2 (.slice (some ⟨w3.heap.size, 0, none⟩) 0 (n0 + t + n2)) [] rfl HO4.out _ rfl P (srcOwn w4 _ P HP4.out) (by simp; omega) ?_; intro v5 w5 ho5 hs5)
    have HO5 : Hid (Own w5 v5 P) := ho5
    have HT5 : Hid (Own w5 (.slice a4 t k4) T ∧ Apart (.slice a4 t k4) v5) := keep_step HT4.out.1 hs5 HT4.out.2
    have HS5 : Hid (Own w5 (.slice a3 n2 k3) S ∧ Apart (.slice a3 n2 k3) v5) := keep_step HS4.out.1 hs5 HS4.out.2
    have Hb5 : Hid (Below w.heap.size w w5) := hs5.below Hb4.out Hb4.out.size Hvb.out
    have Hvb5 : Hid (∀ k, v5.ownBlock = some k → w.heap.size ≤ k) := hs5.since Hb4.out.size Hvb.out
    clear ho5 hs5 HO4 HP4 HT4 HS4 Hvb
    go_upto_region 15 with (at_builtin; refine wpList_append_step _ rfl _ _ 22 22 rfl i0 Try.underlying22 hi hz0 hz1 hz2 v5 P rfl HO5.out _ rfl T (srcOwn w5 _ T HT5.out.1) (by rw [Ht.out]; omega) ?_; intro v6 w6 ho6 hs6)
    have HO6 : Hid (Own w6 v6 (P ++ T)) := ho6
    have HS6 : Hid (Own w6 (.slice a3 n2 k3) S ∧ Apart (.slice a3 n2 k3) v6) := keep_step HS5.out.1 hs6 HS5.out.2
    have Hb6 : Hid (Below w.heap.size w w6) := hs6.below Hb5.out Hb5.out.size Hvb5.out
    have Hvb6 : Hid (∀ k, v6.ownBlock = some k → w.heap.size ≤ k) := hs6.since Hb5.out.size Hvb5.out
    clear ho6 hs6 HO5 HT5 HS5 Hvb5
    go_upto_region 16 with (at_builtin; refine wpList_append_step _ rfl _ _ 22 22 rfl i0 Try.underlying22 hi hz0 hz1 hz2 v6 (P ++ T) rfl HO6.out _ rfl S (srcOwn w6 _ S HS6.out.1) (by rw [List.length_append, Ht.out]; omega) ?_; intro v7 w7 ho7 hs7)
    have HO7 : Hid (Own w7 v7 (P ++ (T ++ S))) := Own.cast ho7 (by simp)
    have Hb7 : Hid (Below w.heap.size w w7) := hs7.below Hb6.out Hb6.out.size Hvb6.out
    clear ho7 hs7 HO6 HS6 Hvb6
    obtain ⟨sb, hsb⟩ : ∃ sb, (decide (-1000000000000000000 < v) && decide (v < 1000000000000000000)) = sb := ⟨_, rfl⟩
    have HSB : Hid ((decide (-1000000000000000000 < v) && decide (v < 1000000000000000000)) = sb) := hsb
    clear hsb
    obtain ⟨fb, hfb⟩ : ∃ fb, fitsB bs v = fb := ⟨_, rfl⟩
    have HFB : Hid (fitsB bs v = fb) := hfb
    clear hfb
    have HR : Hid (ci (P ++ (T ++ S)) n0 n bs = if sb && fb then (v, ((n0 + t : Nat) : Int), true) else (n, (n0 : Int), false)) := by
      have := ci_written P S v n bs hv1 hv2 hS.out
      rw [HSB.out, HFB.out, ← HT.out, R.out.lp, Ht.out] at this
      exact this
    go_wp2_with fail
    refine (zz_any v7 (P ++ (T ++ S)) n0 n bs w7 HO7.out (by rw [List.length_append, List.length_append, R.out.lp, R.out.ls, Ht.out]; omega) h1 h2).mono ?_
    obtain ⟨r, hr⟩ : ∃ r, r = ci (P ++ (T ++ S)) n0 n bs := ⟨_, rfl⟩
    rw [← hr]
    have HR2 : Hid (r = if sb && fb then (v, ((n0 + t : Nat) : Int), true) else (n, (n0 : Int), false)) := hr.trans HR.out
    clear hr HR
    obtain ⟨gn, gi, gok⟩ := r
    rintro e w8 ⟨rfl, hb8⟩
    have HB : Hid (Below w.heap.size w w8) := Hb7.out.trans (hb8.mono Hb7.out.size)
    clear hb8
    cases sb
    · obtain ⟨rfl, rfl, rfl⟩ : gn = n ∧ gi = n0 ∧ gok = false := by have := HR2.out; simpa using this
      go_wp2_with (first | (go_at_call 14; refine (short_sb v _ HSB.out _).mono ?_; rintro e w9 ⟨rfl, rfl⟩) | (go_at_call 15; refine (fits_fn _ _ _ hv1 hv2 h1 h2).mono ?_; rintro e w9 ⟨rfl, rfl⟩))
      go_ret
      exact ⟨rfl, HB.out⟩
    · cases fb
      · obtain ⟨rfl, rfl, rfl⟩ : gn = n ∧ gi = n0 ∧ gok = false := by have := HR2.out; simpa using this
        go_wp2_with (first | (go_at_call 14; refine (short_sb v _ HSB.out _).mono ?_; rintro e w9 ⟨rfl, rfl⟩) | (go_at_call 15; refine (fits_fn _ _ _ hv1 hv2 h1 h2).mono ?_; rw [HFB.out]; rintro e w9 ⟨rfl, rfl⟩))
        go_ret
        exact ⟨rfl, HB.out⟩
      · obtain ⟨rfl, rfl, rfl⟩ : gn = v ∧ gi = ((n0 + t : Nat) : Int) ∧ gok = true := by have := HR2.out; simpa using this
        go_wp2_with (first | (go_at_call 14; refine (short_sb gn _ HSB.out _).mono ?_; rintro e w9 ⟨rfl, rfl⟩) | (go_at_call 15; refine (fits_fn _ _ _ hv1 hv2 h1 h2).mono ?_; rw [HFB.out]; rintro e w9 ⟨rfl, rfl⟩))
        go_ret
        exact ⟨rfl, HB.out⟩

set_option maxRecDepth 100000 in
set_option maxHeartbeats 1000000 in
theorem written_digit (a0 : Option Addr) (n0 c0 n2 c2 b off : Nat) (y : Int) (v n bs : Int) (w : World) (hl : n0 + n2 ≤ 1048576) (hn2 : 0 < n2) (hy : w.cell? ⟨b, off, none⟩ = some (.int .u8 y)) (hyd : isDig y = true) (hz : (v != 0) = true) (h1 : 1 ≤ bs) :
    Calls Try.prog 7 #[.slice a0 n0 c0, .int .i64 v, .slice (some ⟨b, off, none⟩) n2 c2, .int .i64 n, .int .i64 bs] w fun e w' => e = .returned (.bool true) ∧ Below w.heap.size w w' := by
  go_enter Try.func7, Try.ntmps7
  go_wp2_with (first | (go_at_call 20; refine (zb_written _ _ _ _ _ _ _ _ _ _ hl).mono ?_; rintro e w2 ⟨rfl, rfl⟩) | (go_at_call 21; refine (dig_any _ _).mono ?_; rintro e w3 ⟨rfl, rfl⟩))
  go_ret
  exact ⟨rfl, Below.refl _ _⟩

theorem written_in (a0 a2 : Option Addr) (n0 c0 n2 c2 : Nat) (P S : List Int) (v n bs : Int) (w : World) (R : Ready w a0 a2 n0 c0 n2 c2 P S) (hl : n0 + n2 ≤ 1048576) (hv1 : -9223372036854775808 ≤ v) (hv2 : v ≤ 9223372036854775807) (h1 : 1 ≤ bs) (h2 : bs ≤ 9223372036854775807) :
    Calls Try.prog 7 #[.slice a0 n0 c0, .int .i64 v, .slice a2 n2 c2, .int .i64 n, .int .i64 bs] w fun e w' => e = .returned (.bool true) ∧ Below w.heap.size w w' := by
  by_cases hv : v = 0
  · exact written_tail a0 a2 n0 c0 n2 c2 P S v n bs w R hl hv1 hv2 h1 h2 (.inl hv) (.inl (by simp [hv]))
  · have hz : (v != 0) = true := by simp [hv]
    by_cases hn2 : 0 < n2
    · obtain ⟨b, off, y, r, rfl, eS, hy⟩ := R.hd hn2
      by_cases hyd : isDig y = true
      · exact written_digit a0 n0 c0 n2 c2 b off y v n bs w hl hn2 hy hyd hz h1
      · refine written_tail a0 _ n0 c0 n2 c2 P S v n bs w R hl hv1 hv2 h1 h2 (.inr ?_) (.inr (.inr ⟨hz, hn2⟩))
        intro c hc
        rw [eS] at hc
        simp at hc
        subst hc
        simpa using hyd
    · refine written_tail a0 a2 n0 c0 n2 c2 P S v n bs w R hl hv1 hv2 h1 h2 (.inr ?_) (.inr (.inl ⟨hz, by omega⟩))
      intro c hc
      have : S = [] := List.eq_nil_of_length_eq_zero (by rw [R.ls]; omega)
      rw [this] at hc
      cases hc

end Go.Proofs.Qxb6601381a
