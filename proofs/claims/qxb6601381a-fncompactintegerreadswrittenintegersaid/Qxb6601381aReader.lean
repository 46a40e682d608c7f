/- The walks of b1DecimalValue (31), (*compactReader).integer (33), ZZCompactInteger (18), b1IntegerTokenModel (19). -/
import Derived.Test.Qxb6601381aShort
namespace Go.Proofs.Qxb6601381a
open Go.RowKit

set_option maxHeartbeats 1000000 in
theorem dec_any (D : List Int) (hD : Digs D) (g o m c : Nat) (w : World) (hm : m = D.length) (hm18 : m ≤ 18) (hcl : Cells w g o D) :
    Calls Try.prog 31 #[.slice (some ⟨g, o, none⟩) m c] w fun e w' => e = .returned (.int .u64 (num D)) ∧ w' = w := by
  have Hm : Hid (m = D.length) := hm
  have Hcl : Hid (Cells w g o D) := hcl
  clear hm hcl
  go_enter Try.func31, Try.ntmps31
  go_wp2
  go_loop [3, 4, 5] (fun v p i => ∃ q j : Nat, Hid (q + j = m) ∧ i = .int .i64 ((q : Int) - 1) ∧ p = .int .u64 (10 ^ j) ∧ v = .int .u64 (num (D.drop q))) (fun _ _ i => (intOf i + 1).toNat)
  case atStart => exact ⟨m, 0, by show m + 0 = m; omega, rfl, rfl, by rw [Hm.out, List.drop_length]; rfl⟩
  case round =>
    obtain ⟨q, j, hqj, rfl, rfl, rfl⟩ := hrel
    cases q with
    | zero =>
      go_wp2
      go_ret
      exact ⟨rfl, rfl⟩
    | succ r =>
      have hrD : r < D.length := by have := hqj.out; have := Hm.out; omega
      have hx := Hcl.out r hrD
      have hxd := hD D[r] (List.getElem_mem _)
      have hj : j ≤ 17 := by have := hqj.out; omega
      have hrm : r < m := by have := hqj.out; omega
      have hVb := num_bounds (D.drop (r + 1)) (fun b hb => hD b (List.mem_of_mem_drop hb))
      have hVl : (D.drop (r + 1)).length = j := by have := hqj.out; have := Hm.out; simp; omega
      have HN : Hid (num (D.drop r) = (D[r] - 48) * 10 ^ j + num (D.drop (r + 1))) := by
        show num (D.drop r) = _
        rw [List.drop_eq_getElem_cons hrD, num_cons, hVl]
      rw [hVl] at hVb
      have hp17 : (10 : Int) ^ j ≤ 100000000000000000 := by
        have h1 : ((10 ^ j : Nat) : Int) ≤ ((10 ^ 17 : Nat) : Int) := Int.ofNat_le.2 (Nat.pow_le_pow_right (by decide) hj)
        rw [Int.natCast_pow] at h1
        exact h1
      have hp0 : (0 : Int) < 10 ^ j := Int.pow_pos (by decide)
      have HP : Hid ((10 : Int) ^ (j + 1) = 10 ^ j * 10) := Int.pow_succ 10 j
      obtain ⟨x, ex⟩ : ∃ x, x = D[r] := ⟨_, rfl⟩
      rw [← ex] at hx hxd HN
      obtain ⟨P, hP⟩ : ∃ P : Int, P = 10 ^ j := ⟨_, rfl⟩
      rw [← hP] at hVb hp17 hp0 HN HP ⊢
      obtain ⟨V, hV⟩ : ∃ V, V = num (D.drop (r + 1)) := ⟨_, rfl⟩
      rw [← hV] at hVb HN ⊢
      obtain ⟨hx1, hx2⟩ := hxd
      obtain ⟨hV1, hV2⟩ := hVb
      have hQ1 : 0 ≤ (x - 48) * P := Int.mul_nonneg (by omega) (by omega)
      have hQ2 : (x - 48) * P ≤ 9 * P := Int.mul_le_mul_of_nonneg_right (by omega) (by omega)
      have hQ3 : (x - 48) * P ≤ 900000000000000000 := by omega
      have hV3 : V ≤ 100000000000000000 := by omega
      clear ex hP hV hVl hV2 hQ2
      go_wp2
      go_round
      case rel => exact ⟨r, j + 1, by have := hqj.out; show r + (j + 1) = m; omega, by go_num, by rw [HP.out], by rw [HN.out]; go_num⟩
      case measure => simp [intOf]

/-- What integer finds in memory: the reader's two fields, the number. -/
structure Rd (w : World) (R NB : Nat) (a : Option Addr) (N cap : Nat) (i n : Int) : Prop where
  b : w.cell? ⟨R, 0, none⟩ = some (.slice a N cap)
  i : w.cell? ⟨R, 1, none⟩ = some (.int .i64 i)
  n : w.cell? ⟨NB, 0, none⟩ = some (.int .i64 n)
  fi : w.frozen? ⟨R, 1, none⟩ = false
  fn : w.frozen? ⟨NB, 0, none⟩ = false

/-- How integer ends. -/
def IPost (R NB : Nat) (r : Int × Int × Bool) (w : World) (e : Ending) (w' : World) : Prop :=
  e = .returned (.bool r.2.2) ∧ w'.cell? ⟨NB, 0, none⟩ = some (.int .i64 r.1) ∧ w'.cell? ⟨R, 1, none⟩ = some (.int .i64 r.2.1) ∧ ∀ B, B ≤ R → B ≤ NB → Below B w w'

theorem ipost_no {R NB : Nat} {a : Option Addr} {N cap : Nat} {i n : Int} {w : World} (h : Rd w R NB a N cap i n) {r : Int × Int × Bool} (hr : r = (n, i, false)) (q : Nat) : IPost R NB r w (.returned (.bool false)) (w.drewN q) := by
  subst hr
  exact ⟨rfl, h.n, h.i, fun B _ _ => below_drewN (Below.refl _ _) q⟩

theorem cell_other (w : World) (a b : Addr) (v : Value) (h : a.block ≠ b.block) : (w.setCell a v).cell? b = w.cell? b := by
  apply World.cell?_setCell_other
  intro e
  exact h (by rw [e])

theorem ipost_yes {R NB : Nat} {a : Option Addr} {N cap : Nat} {i n : Int} {w : World} (h : Rd w R NB a N cap i n) (hne : R ≠ NB) {r : Int × Int × Bool} (v e : Int) (hr : r = (v, e, true)) (q : Nat) :
    IPost R NB r w (.returned (.bool true)) (((w.drewN q).setCell ⟨NB, 0, none⟩ (.int .i64 v)).setCell ⟨R, 1, none⟩ (.int .i64 e)) := by
  subst hr
  refine ⟨rfl, ?_, ?_, fun B h1 h2 => ((below_drewN (Below.refl _ _) q).setCell h2 _).setCell h1 _⟩
  · rw [cell_other _ _ _ _ (by exact hne)]
    exact World.cell?_setCell_same _ _ _ h.n
  · refine World.cell?_setCell_same _ _ _ (u := .int .i64 i) ?_
    rw [cell_other _ _ _ _ (by exact fun e => hne e.symm)]
    exact h.i

set_option maxRecDepth 100000 in
set_option maxHeartbeats 1000000 in
theorem integer_past (R NB : Nat) (a : Option Addr) (B : List Int) (N cap : Nat) (i : Nat) (n bs : Int) (w : World) (h : Rd w R NB a N cap i n) (hN : N = B.length) (hi : N ≤ i) :
    Calls Try.prog 33 #[.pointer (some ⟨R, 0, none⟩), .pointer (some ⟨NB, 0, none⟩), .int .i64 bs] w (IPost R NB (ci B i n bs) w) := by
  have hr : Hid (ci B i n bs = (n, (i : Int), false)) := by
    show ci B i n bs = _
    have h1 : negAt B i = false := by unfold negAt; rw [List.getElem?_eq_none (by omega)]; rfl
    refine ci_none B i n bs ?_
    have h2 : posAt B i = i := by unfold posAt; rw [h1]; rfl
    rw [h2, List.drop_eq_nil_of_le (by omega)]
    rfl
  have c0 := h.b
  have c1 := h.i
  have H : Hid (Rd w R NB a N cap i n) := h
  clear h hN
  go_enter Try.func33, Try.ntmps33
  go_wp2
  go_quiet (fail)
  go_wp2
  go_ret
  exact ipost_no H.out hr.out _

set_option maxRecDepth 100000 in
set_option maxHeartbeats 1000000 in
theorem integer_in (R NB g : Nat) (B : List Int) (N cap : Nat) (i : Nat) (n bs : Int) (w : World) (h : Rd w R NB (some ⟨g, 0, none⟩) N cap i n) (hne : R ≠ NB) (hcl : Cells w g 0 B) (hN : N = B.length) (hN2 : N ≤ 2000000) (hcap : N ≤ cap) (hcap2 : cap ≤ 9223372036854775807) (hi : i < N) (h1 : 1 ≤ bs) (h2 : bs ≤ 9223372036854775807) :
    Calls Try.prog 33 #[.pointer (some ⟨R, 0, none⟩), .pointer (some ⟨NB, 0, none⟩), .int .i64 bs] w (IPost R NB (ci B i n bs) w) := by
  have c0 := h.b
  have c1 := h.i
  have H : Hid (Rd w R NB (some ⟨g, 0, none⟩) N cap i n) := h
  have HN : Hid (N = B.length) := hN
  have Hcl : Hid (Cells w g 0 B) := hcl
  clear h hN hcl
  obtain ⟨x, hx, hxn⟩ : ∃ x, w.cell? ⟨g, i, none⟩ = some (.int .u8 x) ∧ (x == 45) = negAt B i := by
    have hiB : i < B.length := by rw [← HN.out]; exact hi
    refine ⟨B[i], by simpa using Hcl.out i hiB, ?_⟩
    unfold negAt
    rw [List.getElem?_eq_getElem hiB]
    simp
  obtain ⟨p, hp⟩ : ∃ p, p = posAt B i := ⟨_, rfl⟩
  have Hp : Hid (p = posAt B i) := hp
  have hpi : i ≤ p := by rw [hp]; unfold posAt; split <;> omega
  have hpi2 : p ≤ i + 1 := by rw [hp]; unfold posAt; split <;> omega
  obtain ⟨ng, hng⟩ : ∃ ng, ng = negAt B i := ⟨_, rfl⟩
  have Hng : Hid (ng = negAt B i) := hng
  have Hp2 : Hid (p = if ng then i + 1 else i) := by rw [hng]; exact hp
  rw [← hng] at hxn
  have HX : Hid (ng = true → w.cell? ⟨g, i, none⟩ = some (.int .u8 45)) := by
    intro e
    rw [e, beq_iff_eq] at hxn
    rw [hx, hxn]
  clear hp hng
  go_enter Try.func33, Try.ntmps33
  go_wp2
  go_quiet (fail)
  go_upto_if 34 with fail
  go_cut [9] (fun v wx => v = .int .i64 p ∧ w.drewN nq = wx)
  case first =>
    as_aux_lemma =>
      cases ng
      · obtain rfl : p = i := Hp2.out
        go_wp2
        go_meet
        case rel => exact ⟨rfl, rfl⟩
      · obtain rfl : p = i + 1 := Hp2.out
        go_wp2
        go_meet
        case rel => exact ⟨by go_num, rfl⟩
  case rest =>
    obtain ⟨rfl, rfl⟩ := hcut
    obtain ⟨k, hk⟩ : ∃ k, k = tokLen (B.drop p) := ⟨_, rfl⟩
    have Hk : Hid (k = tokLen (B.drop p)) := hk
    clear hk hx hxn
    by_cases hk0 : k = 0
    · have hr : Hid (ci B i n bs = (n, (i : Int), false)) := ci_none B i n bs (by rw [← Hp.out, ← Hk.out]; exact hk0)
      by_cases hpN : p < N
      · have hpB : p < B.length := by rw [← HN.out]; exact hpN
        have hy := Hcl.out p hpB
        have hyr : B[p] < 48 ∨ 57 < B[p] := tok_zero (B.drop p) (by rw [← Hk.out]; exact hk0) B[p] (by rw [List.getElem?_drop, Nat.add_zero, List.getElem?_eq_getElem hpB])
        obtain ⟨y, ey⟩ : ∃ y, y = B[p] := ⟨_, rfl⟩
        rw [← ey, Nat.zero_add] at hy
        rw [← ey] at hyr
        have hy48 : (y == 48) = false := beq_eq_false_iff_ne.2 (by omega)
        clear ey
        rcases hyr with hyr | hyr
        · go_wp2
          go_ret
          exact ipost_no H.out hr.out _
        · go_wp2
          go_ret
          exact ipost_no H.out hr.out _
      · go_wp2
        go_ret
        exact ipost_no H.out hr.out _
    · have hk1 : 0 < tokLen (B.drop p) := by rw [← Hk.out]; omega
      obtain ⟨hkl, hkd⟩ := tok_spec _ hk1
      have hlen : (B.drop p).length = N - p := by rw [List.length_drop, ← HN.out]
      have hpN : p + k ≤ N := by rw [← Hk.out] at hkl; omega
      have hdig : Hid (∀ m, p ≤ m → m < p + k → ∃ c, w.cell? ⟨g, m, none⟩ = some (.int .u8 c) ∧ 48 ≤ c ∧ c ≤ 57) := by
        intro m hm1 hm2
        obtain ⟨c, e1, e2⟩ := hkd (m - p) (by rw [← Hk.out]; omega)
        rw [List.getElem?_drop, show p + (m - p) = m by omega] at e1
        obtain ⟨hmB, e3⟩ := List.getElem?_eq_some_iff.1 e1
        have := Hcl.out m hmB
        rw [Nat.zero_add, e3] at this
        exact ⟨c, this, e2⟩
      have hD : Digs ((B.drop p).take k) := by rw [Hk.out]; exact tok_digs _
      have hDl : ((B.drop p).take k).length = k := by rw [List.length_take]; omega
      obtain ⟨D, eD⟩ : ∃ D, D = (B.drop p).take k := ⟨_, rfl⟩
      rw [← eD] at hD hDl
      have HDl : Hid (D.length = k) := hDl
      have HD : Hid (Digs D) := hD
      have HDc : Hid (Cells w g p D) := by
        intro j hj
        have hjk : j < k := by rw [← hDl]; exact hj
        have hjB : p + j < B.length := by rw [← HN.out]; omega
        have e : D[j] = B[p + j] := by
          have : D[j]? = some B[p + j] := by rw [eD, List.getElem?_take, if_pos hjk, List.getElem?_drop, List.getElem?_eq_getElem hjB]
          rw [List.getElem?_eq_getElem hj] at this
          exact Option.some.inj this
        have := Hcl.out (p + j) hjB
        rw [Nat.zero_add] at this
        rw [e]
        exact this
      have HC : Hid (ci B i n bs = if (sh ng D bs).2 then ((sh ng D bs).1, ((p + k : Nat) : Int), true) else (n, (i : Int), false)) := by
        have := ci_sh B i n bs (by rw [← Hp.out]; exact hk1)
        rw [← Hp.out, ← Hk.out, ← Hng.out, ← eD] at this
        exact this
      clear hkl hkd hlen hD hDl eD hk1
      go_upto_block 0 with fail
      go_cut [9] (fun v wx => v = .int .i64 ((p : Int) + k) ∧ w.drewN nq = wx)
      case first =>
        as_aux_lemma =>
          obtain ⟨y, hy, hy1, hy2⟩ := hdig.out p (Nat.le_refl _) (by omega)
          have HY : Hid (B[p]? = some y) := by
            show B[p]? = some y
            have hpB : p < B.length := by rw [← HN.out]; omega
            have := Hcl.out p hpB
            rw [Nat.zero_add, hy] at this
            rw [List.getElem?_eq_getElem hpB]
            simpa using this.symm
          by_cases hy48 : y = 48
          · have hyb : (y == 48) = true := by simp [hy48]
            have HK : Hid (k = 1) := by
              show k = 1
              rw [Hk.out]
              exact tok_one _ (by rw [List.getElem?_drop, Nat.add_zero, HY.out, hy48])
            have H48 : Hid (y = 48) := hy48
            clear hy48
            go_wp2
            go_meet
            case rel => exact ⟨by rw [HK.out]; rfl, rfl⟩
          · have hyb : (y == 48) = false := beq_eq_false_iff_ne.2 hy48
            have hy3 : 49 ≤ y := by omega
            have HEnd : Hid (∀ c, B[p + k]? = some c → c < 48 ∨ 57 < c) := by
              intro c hc
              refine tok_end (B.drop p) (by rw [← Hk.out]; omega) ?_ c (by rw [List.getElem?_drop, ← Hk.out]; exact hc)
              rw [List.getElem?_drop, Nat.add_zero, HY.out]
              simpa using hy48
            clear hy48
            go_wp2
            go_loop [9] (fun v => ∃ m : Nat, p ≤ m ∧ m ≤ p + k ∧ v = .int .i64 m) (fun v => N - (intOf v).toNat)
            case atStart => exact ⟨p, Nat.le_refl _, by omega, rfl⟩
            case round =>
              obtain ⟨m, hm1, hm2, rfl⟩ := hrel
              by_cases hlt : m < p + k
              · obtain ⟨x, hx, hx1, hx2⟩ := hdig.out m hm1 hlt
                go_wp2
                go_round
                case rel => exact ⟨m + 1, by omega, by omega, by go_num⟩
                case measure => simp [intOf]; omega
              · obtain rfl : m = p + k := by omega
                by_cases hpk : p + k < N
                · have hpB : p + k < B.length := by rw [← HN.out]; exact hpk
                  have hz := Hcl.out (p + k) hpB
                  have hzr := HEnd.out B[p + k] (List.getElem?_eq_getElem hpB)
                  obtain ⟨zc, ez⟩ : ∃ zc, zc = B[p + k] := ⟨_, rfl⟩
                  rw [← ez, Nat.zero_add] at hz
                  rw [← ez] at hzr
                  clear ez
                  rcases hzr with hzr | hzr
                  · go_wp2
                    go_meet
                    case rel => exact ⟨by go_num, rfl⟩
                  · go_wp2
                    go_meet
                    case rel => exact ⟨by go_num, rfl⟩
                · go_wp2
                  go_meet
                  case rel => exact ⟨by go_num, rfl⟩
      case rest =>
        obtain ⟨rfl, rfl⟩ := hcut
        have hps : p = i + (if ng then 1 else 0) := by rw [Hp2.out]; split <;> rfl
        have HPS : Hid (p = i + (if ng then 1 else 0)) := hps
        clear hps
        go_wp2_with fail
        refine (short_any ng D HD.out (by rw [HDl.out]; omega) (by rw [HDl.out]; omega) g i (p + k - i) (cap - i) bs (w.drewN nq) (by rw [HDl.out]; have := HPS.out; omega) (by omega) (by omega) (fun e => HX.out e) (by rw [← HPS.out]; exact HDc.out) h1 h2).mono ?_
        obtain ⟨r, hr⟩ : ∃ r, r = sh ng D bs := ⟨_, rfl⟩
        rw [← hr]
        have HC2 : Hid (ci B i n bs = if r.2 then (r.1, ((p + k : Nat) : Int), true) else (n, (i : Int), false)) := by rw [hr]; exact HC.out
        clear hr HC HDc HD
        obtain ⟨v, ok⟩ := r
        rintro e w2 ⟨rfl, rfl⟩
        have c2 := H.out.n
        have f1 := H.out.fi
        have f2 := H.out.fn
        cases ok
        · go_wp2
          go_ret
          exact ipost_no H.out HC2.out _
        · have c3 : (w.setCell ⟨NB, 0, none⟩ (.int .i64 v)).cell? ⟨R, 1, none⟩ = some (.int .i64 i) := by rw [cell_other _ _ _ _ (by exact fun e => hne e.symm)]; exact c1
          go_wp2
          go_ret
          refine ipost_yes H.out hne v _ ?_ _
          rw [HC2.out]
          simp

end Go.Proofs.Qxb6601381a
