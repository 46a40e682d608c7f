/- The walks of shortInteger (30), b1DecimalValue (31), b1MagnitudeFits (32), b1IsDigit (21). -/
import Derived.Test.Qxb6601381aClone
import Derived.Test.Qxb6601381aPlain
import Derived.Deep.DeepCutAuto
import Derived.Deep.CutBlock
namespace Go.Proofs.Qxb6601381a
open Go.RowKit

theorem ret_bool {a b : Bool} (h : a = b) : Ending.returned (.bool a) = .returned (.bool b) := by rw [h]
theorem ret_int {k : IntKind} {a b : Int} (h : a = b) : Ending.returned (.int k a) = .returned (.int k b) := by rw [h]

theorem pow2_pos (k : Nat) : (0 : Int) < 2 ^ k := Int.pow_pos (by decide)

theorem pow2_le (k m : Nat) (h : k ≤ m) : (2 : Int) ^ k ≤ 2 ^ m := by
  have h1 : ((2 ^ k : Nat) : Int) ≤ ((2 ^ m : Nat) : Int) := Int.ofNat_le.2 (Nat.pow_le_pow_right (by decide) h)
  rw [Int.natCast_pow, Int.natCast_pow] at h1
  exact h1

theorem wrap_pow2 (k : Nat) (h : k ≤ 62) : IntKind.u64.wrap (2 ^ k) = 2 ^ k := by
  have h1 := pow2_pos k
  have h2 := pow2_le k 62 h
  have h3 : (2 : Int) ^ 62 = 4611686018427387904 := by decide
  rw [IntKind.wrap_u64]
  omega

theorem fits_pos (k : Nat) (m : Int) (hk : k ≤ 62) (hm : 0 ≤ m) : fitsB ((k : Int) + 1) (sgn false m) = decide (m < 2 ^ k) := by
  have h1 := pow2_pos k
  have e : ((k : Int) + 1 - 1).toNat = k := by omega
  unfold fitsB sgn
  rw [e, decide_eq_false (by omega : ¬ (64 : Int) ≤ (k : Int) + 1), Bool.false_or, if_neg (by decide), decide_eq_true (by omega : -((2 : Int) ^ k) ≤ m), Bool.true_and]

theorem fits_neg (k : Nat) (m : Int) (hk : k ≤ 62) (hm : 0 ≤ m) : fitsB ((k : Int) + 1) (sgn true m) = decide (m ≤ 2 ^ k) := by
  have h1 := pow2_pos k
  have e : ((k : Int) + 1 - 1).toNat = k := by omega
  unfold fitsB sgn
  rw [e, decide_eq_false (by omega : ¬ (64 : Int) ≤ (k : Int) + 1), Bool.false_or, if_pos rfl, decide_eq_true (by omega : -m < (2 : Int) ^ k), Bool.and_true]
  rw [Bool.eq_iff_iff, decide_eq_true_iff, decide_eq_true_iff]
  omega

set_option maxHeartbeats 400000 in
theorem mag_any (neg : Bool) (mag bs : Int) (w : World) (h1 : 1 ≤ bs) (h2 : bs ≤ 9223372036854775807) (h3 : 0 ≤ mag) :
    Calls Try.prog 32 #[.bool neg, .int .u64 mag, .int .i64 bs] w fun e w' => e = .returned (.bool (fitsB bs (sgn neg mag))) ∧ w' = w := by
  by_cases h : 64 ≤ bs
  · go_enter Try.func32, Try.ntmps32
    go_wp2
    go_ret
    exact ⟨ret_bool (by simp [fitsB, h]), rfl⟩
  · obtain ⟨k, rfl⟩ : ∃ k : Nat, bs = (k : Int) + 1 := ⟨(bs - 1).toNat, by omega⟩
    have hk : k ≤ 62 := by omega
    clear h h1 h2
    cases neg
    · go_enter Try.func32, Try.ntmps32
      go_wp2
      go_ret
      exact ⟨ret_bool (by rw [fits_pos k mag hk h3, wrap_pow2 k hk]), rfl⟩
    · go_enter Try.func32, Try.ntmps32
      go_wp2
      go_ret
      exact ⟨ret_bool (by rw [fits_neg k mag hk h3, wrap_pow2 k hk]), rfl⟩

set_option maxHeartbeats 400000 in
theorem dig_any (c : Int) (w : World) : Calls Try.prog 21 #[.int .u8 c] w fun e w' => e = .returned (.bool (isDig c)) ∧ w = w' := by
  by_cases h1 : 48 ≤ c
  · go_enter Try.func21, Try.ntmps21
    go_wp2
    go_ret
    exact ⟨ret_bool (by simp [isDig, h1]), rfl⟩
  · go_enter Try.func21, Try.ntmps21
    go_wp2
    go_ret
    exact ⟨ret_bool (by unfold isDig; rw [decide_eq_false (by omega : ¬ 48 ≤ c)]; rfl), rfl⟩

/-- Bytes in a row. -/
def Cells (w : World) (g o : Nat) (L : List Int) : Prop := ∀ j (hj : j < L.length), w.cell? ⟨g, o + j, none⟩ = some (.int .u8 L[j])

set_option maxRecDepth 100000 in
set_option maxHeartbeats 1000000 in
theorem short_any (neg : Bool) (D : List Int) (hD : Digs D) (h0 : 0 < D.length) (hl : D.length ≤ 2000000) (g o m c : Nat) (bs : Int) (w : World) (hm : m = (if neg then 1 else 0) + D.length) (hc : m ≤ c) (hc63 : c ≤ 9223372036854775807)
    (hsig : neg = true → w.cell? ⟨g, o, none⟩ = some (.int .u8 45)) (hcl : Cells w g (o + (if neg then 1 else 0)) D) (h1 : 1 ≤ bs) (h2 : bs ≤ 9223372036854775807) :
    Calls Try.prog 30 #[.slice (some ⟨g, o, none⟩) m c, .int .i64 bs] w fun e w' => e = .returned (.tuple #[.int .i64 (sh neg D bs).1, .bool (sh neg D bs).2]) ∧ w' = w := by
  obtain ⟨x0, hx0, hx0n⟩ : ∃ x : Int, w.cell? ⟨g, o, none⟩ = some (.int .u8 x) ∧ (x == 45) = neg := by
    cases neg with
    | true => exact ⟨45, hsig rfl, rfl⟩
    | false =>
      have := hcl 0 h0
      simp at this
      exact ⟨D[0], this, beq_eq_false_iff_ne.2 (by have := hD D[0] (List.getElem_mem _); omega)⟩
  obtain ⟨n, hn⟩ : ∃ n, n = D.length := ⟨_, rfl⟩
  have Hn : Hid (n = D.length) := hn
  rw [← hn] at h0 hl hm
  obtain ⟨s, hs⟩ : ∃ s : Nat, s = if neg then 1 else 0 := ⟨_, rfl⟩
  have Hs : Hid (s = if neg then 1 else 0) := hs
  rw [← hs] at hm hcl
  have Hm : Hid (m = s + n) := hm
  have Hcl : Hid (Cells w g (o + s) D) := hcl
  have hmp : 0 < m := by omega
  have hsm : s + n ≤ m := by omega
  have hms : m ≤ s + n := by omega
  clear hn hs hm hcl hsig
  go_enter Try.func30, Try.ntmps30
  go_upto_if 21 with fail
  go_cut [7] (fun d wx => ∃ c', n ≤ c' ∧ c' ≤ 9223372036854775807 ∧ d = .slice (some ⟨g, o + s, none⟩) n c' ∧ w = wx)
  case first =>
    cases neg
    · obtain rfl : s = 0 := Hs.out
      obtain rfl : m = n := by omega
      go_wp2
      go_meet
      case rel => exact ⟨c, hc, hc63, rfl, rfl⟩
    · obtain rfl : s = 1 := Hs.out
      obtain rfl : m = 1 + n := by omega
      go_wp2
      go_meet
      case rel => exact ⟨c - 1, by omega, by omega, by go_num, rfl⟩
  case rest =>
    obtain ⟨c', hc1, hc2, rfl, rfl⟩ := hcut
    have hne : ((n : Int) == 0) = false := beq_eq_false_iff_ne.2 (by omega)
    by_cases h18 : 18 < n
    · have HR : Hid (sh neg D bs = (0, false)) := by show sh neg D bs = _; unfold sh; rw [if_pos (by rw [← Hn.out]; exact h18)]
      go_wp2
      go_ret2
      exact ⟨by rw [HR.out]; rfl, rfl⟩
    · have h18' : n ≤ 18 := by omega
      clear h18 hx0 hx0n
      go_wp2
      go_loop [4, 34] (fun v i => ∃ k : Nat, k ≤ n ∧ i = .int .i64 k ∧ v = .int .i64 (num (D.take k))) (fun _ i => n - (intOf i).toNat)
      case atStart => exact ⟨0, Nat.zero_le _, rfl, rfl⟩
      case round =>
        obtain ⟨k, hk, rfl, rfl⟩ := hrel
        by_cases hlt : k < n
        · have hkD : k < D.length := by rw [← Hn.out]; exact hlt
          have hx := Hcl.out k hkD
          have hxd := hD D[k] (List.getElem_mem _)
          obtain ⟨x, ex⟩ : ∃ x, x = D[k] := ⟨_, rfl⟩
          rw [← ex] at hx hxd
          obtain ⟨hx1, hx2⟩ := hxd
          have hVb := num_bounds (D.take k) (fun b hb => hD b (List.mem_of_mem_take hb))
          have hVl : (D.take k).length = k := by simp; omega
          rw [hVl] at hVb
          have hp17 : (10 : Int) ^ k ≤ 100000000000000000 := by
            have h1 : ((10 ^ k : Nat) : Int) ≤ ((10 ^ 17 : Nat) : Int) := Int.ofNat_le.2 (Nat.pow_le_pow_right (by decide) (by omega))
            rw [Int.natCast_pow] at h1
            exact h1
          have HS : Hid (num (D.take (k + 1)) = num (D.take k) * 10 + (x - 48)) := by
            show num (D.take (k + 1)) = _
            rw [List.take_succ_eq_append_getElem hkD, num_snoc, ex]
          obtain ⟨V, hV⟩ : ∃ V, V = num (D.take k) := ⟨_, rfl⟩
          rw [← hV] at hVb HS ⊢
          obtain ⟨hV1, hV2⟩ := hVb
          have hV3 : V ≤ 100000000000000000 := by omega
          clear hVl hp17 hV2 ex hV
          go_wp2
          go_round
          case rel => exact ⟨k + 1, by omega, by go_num, by rw [HS.out]⟩
          case measure => simp [intOf]; omega
        · obtain rfl : n = k := by omega
          have hM := num_le18 D hD (by rw [← Hn.out]; exact h18')
          have HM : Hid (num (D.take n) = num D) := by show num (D.take n) = num D; rw [Hn.out, List.take_length]
          have hM2 := HM.out
          rw [hM2]
          obtain ⟨M, hMe⟩ : ∃ M, M = num D := ⟨_, rfl⟩
          have HMe : Hid (M = num D) := hMe
          rw [← hMe] at hM ⊢
          obtain ⟨hM3, hM4⟩ := hM
          clear hM2 HM hMe
          obtain ⟨S, hS⟩ : ∃ S, S = sgn neg M := ⟨_, rfl⟩
          have HS : Hid (S = sgn neg M) := hS
          have hS1 : -1000000000000000000 ≤ S := by rw [hS]; unfold sgn; split <;> omega
          have hS2 : S ≤ 1000000000000000000 := by rw [hS]; unfold sgn; split <;> omega
          have HR : Hid (sh neg D bs = if fitsB bs S then (S, true) else (0, false)) := by
            show sh neg D bs = _
            unfold sh
            rw [if_neg (by rw [← Hn.out]; omega), ← HMe.out, ← hS]
          clear hS
          go_upto_if 51 with fail
          go_cut [4] (fun v wx => v = .int .i64 S ∧ w = wx)
          case first =>
            cases neg
            · have e : S = M := HS.out
              have E : Hid (S = M) := e
              clear e
              go_wp2
              go_meet
              case rel => exact ⟨by rw [E.out], rfl⟩
            · have e : S = -M := HS.out
              have E : Hid (S = -M) := e
              clear e
              go_wp2
              go_meet
              case rel => exact ⟨by rw [E.out], rfl⟩
          case rest =>
            obtain ⟨rfl, rfl⟩ := hcut
            by_cases h64 : 64 ≤ bs
            · have HF : Hid (fitsB bs S = true) := by show fitsB bs S = true; simp [fitsB, h64]
              go_wp2
              go_ret2
              exact ⟨by rw [HR.out, HF.out]; rfl, rfl⟩
            · obtain ⟨k, rfl⟩ : ∃ k : Nat, bs = (k : Int) + 1 := ⟨(bs - 1).toNat, by omega⟩
              have hk : k ≤ 62 := by omega
              clear h64 h1 h2
              obtain ⟨P, hP⟩ : ∃ P : Int, P = 2 ^ k := ⟨_, rfl⟩
              have hP1 : 1 ≤ P := by rw [hP]; exact pow2_pos k
              have hP2 : P ≤ 4611686018427387904 := by rw [hP]; exact pow2_le k 62 hk
              have HPe : Hid (P = 2 ^ k) := hP
              have HF : Hid (fitsB ((k : Int) + 1) S = (decide (-P ≤ S) && decide (S < P))) := by
                show fitsB ((k : Int) + 1) S = _
                have e : ((k : Int) + 1 - 1).toNat = k := by omega
                unfold fitsB
                rw [e, decide_eq_false (by omega : ¬ (64 : Int) ≤ (k : Int) + 1), Bool.false_or, hP]
              clear hP
              go_upto_region 16 with fail
              go_cut [10] (fun l wx => l = .int .i64 P ∧ w = wx)
              case first =>
                go_wp2
                go_meet
                case rel => exact ⟨by rw [IntWalk.wrap64_in _ (by rw [← HPe.out]; omega), HPe.out], rfl⟩
              case rest =>
                obtain ⟨rfl, rfl⟩ := hcut
                by_cases hlo : S < -P
                · have HF2 : Hid (fitsB ((k : Int) + 1) S = false) := by show fitsB ((k : Int) + 1) S = false; rw [HF.out, decide_eq_false (by omega), Bool.false_and]
                  go_wp2
                  go_ret2
                  exact ⟨by rw [HR.out, HF2.out]; rfl, rfl⟩
                · by_cases hhi : P ≤ S
                  · have HF2 : Hid (fitsB ((k : Int) + 1) S = false) := by show fitsB ((k : Int) + 1) S = false; rw [HF.out, decide_eq_false (by omega : ¬ S < P), Bool.and_false]
                    go_wp2
                    go_ret2
                    exact ⟨by rw [HR.out, HF2.out]; rfl, rfl⟩
                  · have HF2 : Hid (fitsB ((k : Int) + 1) S = true) := by show fitsB ((k : Int) + 1) S = true; rw [HF.out, decide_eq_true (by omega : -P ≤ S), decide_eq_true (by omega : S < P)]; rfl
                    go_wp2
                    go_ret2
                    exact ⟨by rw [HR.out, HF2.out]; rfl, rfl⟩

end Go.Proofs.Qxb6601381a
