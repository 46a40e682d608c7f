/- The walk of b1IntegerTokenModel (19). -/
import Derived.Test.Qxb6601381aZZ
namespace Go.Proofs.Qxb6601381a
open Go.RowKit

/-- How the model ends. -/
def MPost (r : Int × Int × Bool) (w : World) (e : Ending) (w' : World) : Prop :=
  e = .returned (.tuple #[.int .i64 r.1, .int .i64 r.2.1, .bool r.2.2]) ∧ w' = w

theorem mpost_mk {r : Int × Int × Bool} {w : World} {x y : Int} {b : Bool} (h : r = (x, y, b)) : MPost r w (.returned (.tuple #[.int .i64 x, .int .i64 y, .bool b])) w := by
  subst h
  exact ⟨rfl, rfl⟩

theorem ci_long (B : List Int) (i : Nat) (n bs : Int) (h : 18 < tokLen (B.drop (posAt B i))) : ci B i n bs = (n, (i : Int), false) := by
  unfold ci
  rw [if_pos (.inr h)]

theorem ci_fit (B : List Int) (i : Nat) (n bs : Int) (h : 0 < tokLen (B.drop (posAt B i))) (h18 : tokLen (B.drop (posAt B i)) ≤ 18) :
    ci B i n bs = if fitsB bs (sgn (negAt B i) (num ((B.drop (posAt B i)).take (tokLen (B.drop (posAt B i)))))) then
    (sgn (negAt B i) (num ((B.drop (posAt B i)).take (tokLen (B.drop (posAt B i))))), ((posAt B i + tokLen (B.drop (posAt B i)) : Nat) : Int), true) else (n, (i : Int), false) := by
  unfold ci
  rw [if_neg (by omega)]

theorem ci_past (B : List Int) (i : Nat) (n bs : Int) (h : B.length ≤ i) : ci B i n bs = (n, (i : Int), false) := by
  have h1 : negAt B i = false := by unfold negAt; rw [List.getElem?_eq_none h]; rfl
  refine ci_none B i n bs ?_
  have h2 : posAt B i = i := by unfold posAt; rw [h1]; rfl
  rw [h2, List.drop_eq_nil_of_le h]
  rfl

set_option maxRecDepth 100000 in
set_option maxHeartbeats 1000000 in
theorem model_past (a : Option Addr) (B : List Int) (N cap : Nat) (i : Nat) (n bs : Int) (w : World) (hN : N = B.length) (hi : N ≤ i) :
    Calls Try.prog 19 #[.slice a N cap, .int .i64 i, .int .i64 n, .int .i64 bs] w (MPost (ci B i n bs) w) := by
  have hr : Hid (ci B i n bs = (n, (i : Int), false)) := ci_past B i n bs (by omega)
  clear hN
  go_enter Try.func19, Try.ntmps19
  go_wp2
  go_ret3
  exact mpost_mk hr.out

set_option maxRecDepth 100000 in
set_option maxHeartbeats 1000000 in
theorem model_in (g : Nat) (B : List Int) (N cap : Nat) (i : Nat) (n bs : Int) (w : World) (hcl : Cells w g 0 B) (hN : N = B.length) (hN2 : N ≤ 2000000) (hcap : N ≤ cap) (hcap2 : cap ≤ 9223372036854775807) (hi : i < N) (h1 : 1 ≤ bs) (h2 : bs ≤ 9223372036854775807) :
    Calls Try.prog 19 #[.slice (some ⟨g, 0, none⟩) N cap, .int .i64 i, .int .i64 n, .int .i64 bs] w (MPost (ci B i n bs) w) := by
  have HN : Hid (N = B.length) := hN
  have Hcl : Hid (Cells w g 0 B) := hcl
  clear hN hcl
  obtain ⟨x, hx, hxn⟩ : ∃ x, w.cell? ⟨g, i, none⟩ = some (.int .u8 x) ∧ (x == 45) = negAt B i := by
    have hiB : i < B.length := by rw [← HN.out]; exact hi
    refine ⟨B[i], by simpa using Hcl.out i hiB, ?_⟩
    unfold negAt
    rw [List.getElem?_eq_getElem hiB]
    simp
  obtain ⟨p, hp⟩ : ∃ p, p = posAt B i := ⟨_, rfl⟩
  have Hp : Hid (p = posAt B i) := hp
  have hpi : i ≤ p := by rw [hp]; unfold posAt; split <;> omega
  have hpi2 : p ≤ i + 1 := by rw [hp]; unfold posAt; split <;> omega
  obtain ⟨ng, hng⟩ : ∃ ng, ng = negAt B i := ⟨_, rfl⟩
  have Hng : Hid (ng = negAt B i) := hng
  have Hp2 : Hid (p = if ng then i + 1 else i) := by rw [hng]; exact hp
  rw [← hng] at hxn
  clear hp hng
  go_enter Try.func19, Try.ntmps19
  go_upto_if 27 with fail
  go_cut [11, 12] (fun v b wx => v = .int .i64 p ∧ b = .bool ng ∧ w = wx)
  case first =>
    as_aux_lemma =>
      cases ng
      · obtain rfl : p = i := Hp2.out
        go_wp2
        go_meet
        case rel => exact ⟨rfl, rfl, rfl⟩
      · obtain rfl : p = i + 1 := Hp2.out
        go_wp2
        go_meet
        case rel => exact ⟨by go_num, rfl, rfl⟩
  case rest =>
    obtain ⟨rfl, rfl, rfl⟩ := hcut
    obtain ⟨k, hk⟩ : ∃ k, k = tokLen (B.drop p) := ⟨_, rfl⟩
    have Hk : Hid (k = tokLen (B.drop p)) := hk
    clear hk hx hxn
    by_cases hk0 : k = 0
    · have hr : Hid (ci B i n bs = (n, (i : Int), false)) := ci_none B i n bs (by rw [← Hp.out, ← Hk.out]; exact hk0)
      by_cases hpN : p < N
      · have hpB : p < B.length := by rw [← HN.out]; exact hpN
        have hy := Hcl.out p hpB
        have hyr : B[p] < 48 ∨ 57 < B[p] := tok_zero (B.drop p) (by rw [← Hk.out]; exact hk0) B[p] (by rw [List.getElem?_drop, Nat.add_zero, List.getElem?_eq_getElem hpB])
        obtain ⟨y, ey⟩ : ∃ y, y = B[p] := ⟨_, rfl⟩
        rw [← ey, Nat.zero_add] at hy
        rw [← ey] at hyr
        have hyd : isDig y = false := by
          cases hb : isDig y
          · rfl
          · have := (isDig_iff y).1 hb; omega
        clear ey hyr
        go_wp2_with (go_at_call 21; refine (dig_any _ _).mono ?_; rintro e w2 ⟨rfl, rfl⟩)
        go_ret3
        exact mpost_mk hr.out
      · go_wp2
        go_ret3
        exact mpost_mk hr.out
    · have hk1 : 0 < tokLen (B.drop p) := by rw [← Hk.out]; omega
      obtain ⟨hkl, hkd⟩ := tok_spec _ hk1
      have hlen : (B.drop p).length = N - p := by rw [List.length_drop, ← HN.out]
      have hpN : p + k ≤ N := by rw [← Hk.out] at hkl; omega
      have hdig : Hid (∀ m, p ≤ m → m < p + k → ∃ c, w.cell? ⟨g, m, none⟩ = some (.int .u8 c) ∧ 48 ≤ c ∧ c ≤ 57) := by
        intro m hm1 hm2
        obtain ⟨c, e1, e2⟩ := hkd (m - p) (by rw [← Hk.out]; omega)
        rw [List.getElem?_drop, show p + (m - p) = m by omega] at e1
        obtain ⟨hmB, e3⟩ := List.getElem?_eq_some_iff.1 e1
        have := Hcl.out m hmB
        rw [Nat.zero_add, e3] at this
        exact ⟨c, this, e2⟩
      obtain ⟨y, hy, hy1, hy2⟩ := hdig.out p (Nat.le_refl _) (by omega)
      have HY : Hid (B[p]? = some y) := by
        show B[p]? = some y
        have hpB : p < B.length := by rw [← HN.out]; omega
        have := Hcl.out p hpB
        rw [Nat.zero_add, hy] at this
        rw [List.getElem?_eq_getElem hpB]
        simpa using this.symm
      have hyd : isDig y = true := (isDig_iff y).2 ⟨hy1, hy2⟩
      have hD : Digs ((B.drop p).take k) := by rw [Hk.out]; exact tok_digs _
      have hDl : ((B.drop p).take k).length = k := by rw [List.length_take]; omega
      have HK1 : Hid (0 < tokLen (B.drop (posAt B i))) := by rw [← Hp.out]; exact hk1
      obtain ⟨D, eD⟩ : ∃ D, D = (B.drop p).take k := ⟨_, rfl⟩
      rw [← eD] at hD hDl
      have HDl : Hid (D.length = k) := hDl
      have HD : Hid (Digs D) := hD
      have HDe : Hid (D = (B.drop p).take k) := eD
      have HDc : Hid (Cells w g p D) := by
        intro j hj
        have hjk : j < k := by rw [← hDl]; exact hj
        have hjB : p + j < B.length := by rw [← HN.out]; omega
        have e : D[j] = B[p + j] := by
          have : D[j]? = some B[p + j] := by rw [eD, List.getElem?_take, if_pos hjk, List.getElem?_drop, List.getElem?_eq_getElem hjB]
          rw [List.getElem?_eq_getElem hj] at this
          exact Option.some.inj this
        have := Hcl.out (p + j) hjB
        rw [Nat.zero_add] at this
        rw [e]
        exact this
      clear hkl hkd hlen hD hDl eD hk1
      have hNp : decide (N ≤ p) = false := decide_eq_false (by omega)
      obtain ⟨nb, hnb⟩ : ∃ nb, (y != 48) = nb := ⟨_, rfl⟩
      have HNB : Hid ((y != 48) = nb) := hnb
      go_upto_if 50 with (go_at_call 21; refine (dig_any _ _).mono ?_; rintro e w2 ⟨rfl, rfl⟩)
      go_cut [13, 50] (fun v _ wx => v = .int .i64 ((p : Int) + k) ∧ w = wx)
      case first =>
        as_aux_lemma =>
          clear hnb
          cases nb
          · have hy48 : y = 48 := by simpa using HNB.out
            have HK : Hid (k = 1) := by
              show k = 1
              rw [Hk.out]
              exact tok_one _ (by rw [List.getElem?_drop, Nat.add_zero, HY.out, hy48])
            clear hy48
            go_wp2
            go_meet
            case rel => exact ⟨by rw [HK.out]; rfl, rfl⟩
          · have hy48 : ¬ y = 48 := by simpa using HNB.out
            have HEnd : Hid (∀ c, B[p + k]? = some c → c < 48 ∨ 57 < c) := by
              intro c hc
              refine tok_end (B.drop p) (by rw [← Hk.out]; omega) ?_ c (by rw [List.getElem?_drop, ← Hk.out]; exact hc)
              rw [List.getElem?_drop, Nat.add_zero, HY.out]
              simpa using hy48
            clear hy48
            go_wp2_with fail
            go_loop [13] (fun v => ∃ m : Nat, p + 1 ≤ m ∧ m ≤ p + k ∧ v = .int .i64 m) (fun v => N - (intOf v).toNat)
            case atStart => exact ⟨p + 1, Nat.le_refl _, by omega, by go_num⟩
            case round =>
              obtain ⟨m, hm1, hm2, rfl⟩ := hrel
              by_cases hlt : m < p + k
              · obtain ⟨x, hx, hx1, hx2⟩ := hdig.out m (by omega) hlt
                have hxd : isDig x = true := (isDig_iff x).2 ⟨hx1, hx2⟩
                go_wp2_with (go_at_call 21; refine (dig_any _ _).mono ?_; rintro e w3 ⟨rfl, rfl⟩)
                go_round
                case rel => exact ⟨m + 1, by omega, by omega, by go_num⟩
                case measure => simp [intOf]; omega
              · obtain rfl : m = p + k := by omega
                by_cases hpk : p + k < N
                · have hpB : p + k < B.length := by rw [← HN.out]; exact hpk
                  have hz := Hcl.out (p + k) hpB
                  have hzr := HEnd.out B[p + k] (List.getElem?_eq_getElem hpB)
                  obtain ⟨zc, ez⟩ : ∃ zc, zc = B[p + k] := ⟨_, rfl⟩
                  rw [← ez, Nat.zero_add] at hz
                  rw [← ez] at hzr
                  have hzd : isDig zc = false := by
                    cases hb : isDig zc
                    · rfl
                    · have := (isDig_iff zc).1 hb; omega
                  clear ez hzr
                  go_wp2_with (go_at_call 21; refine (dig_any _ _).mono ?_; rintro e w3 ⟨rfl, rfl⟩)
                  go_meet
                  case rel => exact ⟨by go_num, rfl⟩
                · go_wp2
                  go_meet
                  case rel => exact ⟨by go_num, rfl⟩
      case rest =>
        obtain ⟨rfl, rfl⟩ := hcut
        clear hnb
        by_cases h18 : 18 < k
        · have hr : Hid (ci B i n bs = (n, (i : Int), false)) := ci_long B i n bs (by rw [← Hp.out, ← Hk.out]; exact h18)
          go_wp2
          go_ret3
          exact mpost_mk hr.out
        · have h18' : k ≤ 18 := by omega
          have hM := num_le18 D HD.out (by rw [HDl.out]; exact h18')
          have HC : Hid (ci B i n bs = if fitsB bs (sgn ng (num D)) then (sgn ng (num D), ((p + k : Nat) : Int), true) else (n, (i : Int), false)) := by
            have := ci_fit B i n bs HK1.out (by rw [← Hp.out, ← Hk.out]; exact h18')
            rw [← Hp.out, ← Hk.out, ← Hng.out, ← HDe.out] at this
            exact this
          go_wp2_with fail
          refine (dec_any D HD.out g p k (cap - p) _ HDl.out.symm h18' HDc.out).mono ?_
          rintro e w3 ⟨rfl, hw⟩
          obtain rfl := hw
          obtain ⟨M, hMe⟩ : ∃ M, M = num D := ⟨_, rfl⟩
          rw [← hMe] at hM HC ⊢
          obtain ⟨hM1, hM2⟩ := hM
          clear hMe h18
          go_wp2_with fail
          refine (mag_any ng M bs _ h1 h2 hM1).mono ?_
          rintro e w4 ⟨rfl, hw⟩
          obtain rfl := hw
          obtain ⟨ft, hft⟩ : ∃ ft, ft = fitsB bs (sgn ng M) := ⟨_, rfl⟩
          rw [← hft] at HC ⊢
          clear hft
          cases ft
          · go_wp2
            go_ret3
            exact mpost_mk HC.out
          · cases ng
            · go_wp2
              go_ret3
              exact mpost_mk (by rw [HC.out]; simp [sgn])
            · go_wp2
              go_ret3
              exact mpost_mk (by rw [HC.out]; simp [sgn])

theorem model_any (v : Value) (B : List Int) (i : Nat) (n bs : Int) (w : World) (ho : Own w v B) (hB : B.length ≤ 2000000) (h1 : 1 ≤ bs) (h2 : bs ≤ 9223372036854775807) :
    Calls Try.prog 19 #[v, .int .i64 i, .int .i64 n, .int .i64 bs] w (MPost (ci B i n bs) w) := by
  rcases ho.form with ⟨rfl, rfl⟩ | ⟨g, cap, rfl, hc, h63, hg, hcell⟩
  · exact model_past none [] 0 0 i n bs w rfl (Nat.zero_le _)
  · by_cases hi : i < B.length
    · exact model_in g B B.length cap i n bs w (fun j hj => by rw [Nat.zero_add]; exact hcell j hj) rfl hB hc (by simpa [maxLen] using h63) hi h1 h2
    · exact model_past _ B B.length cap i n bs w rfl (by omega)

end Go.Proofs.Qxb6601381a
