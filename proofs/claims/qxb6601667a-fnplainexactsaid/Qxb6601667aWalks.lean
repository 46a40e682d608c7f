/- The walks of plain$1 (13), plain (10), ZZPlain (6). -/
import Derived.Test.Qxb6601667aChecked
import Derived.Test.Qxb6601667aPlain
import Derived.WalkKit
import Derived.WalkLawsBesides
import Derived.KernelRfl
namespace Go.Proofs.Qxb6601667a
open Go.RowKit

theorem ret_int {k : IntKind} {a b : Int} (h : a = b) : Ending.returned (.int k a) = .returned (.int k b) := by rw [h]
theorem ret_bool {a b : Bool} (h : a = b) : Ending.returned (.bool a) = .returned (.bool b) := by rw [h]

theorem compl_xor (v : Nat) (hv : v < 18446744073709551616) : 18446744073709551615 ^^^ v = 18446744073709551615 - v := by
  have h1 : (BitVec.allOnes 64 ^^^ BitVec.ofNat 64 v).toNat = (~~~ BitVec.ofNat 64 v).toNat := by rw [BitVec.allOnes_xor]
  rw [BitVec.toNat_xor, BitVec.toNat_not, BitVec.toNat_allOnes, BitVec.toNat_ofNat, Nat.mod_eq_of_lt (by omega)] at h1
  exact h1

theorem below_lt (v n : Nat) : belowN v n < 18446744073709551616 := by
  unfold belowN
  exact Nat.and_lt_two_pow (n := 64) _ (by decide)

theorem below_eq (v n : Nat) (hv : v < 18446744073709551616) :
    bits .and .u64 (bits .and .u64 (IntKind.u64.wrap ((v : Int) - 72340172838076673 * (n : Int))) (bits .xor .u64 IntKind.u64.max (v : Int))) 9259542123273814144 = ((belowN v n : Nat) : Int) := by
  have e1 : bits .xor .u64 IntKind.u64.max (v : Int) = ((18446744073709551615 - v : Nat) : Int) := by
    have := u64_xor_nat 18446744073709551615 v (by decide) hv
    rw [compl_xor v hv] at this
    exact this
  have e2 : IntKind.u64.wrap ((v : Int) - 72340172838076673 * (n : Int)) = (((((v : Int) - ((72340172838076673 * n : Nat) : Int)) % 18446744073709551616).toNat : Nat) : Int) := by
    rw [IntKind.wrap_u64, Int.toNat_of_nonneg (Int.emod_nonneg _ (by decide)), Int.natCast_mul]
    rfl
  have e3 : (((v : Int) - ((72340172838076673 * n : Nat) : Int)) % 18446744073709551616).toNat < 18446744073709551616 := by
    have := Int.emod_lt_of_pos ((v : Int) - ((72340172838076673 * n : Nat) : Int)) (show (0 : Int) < 18446744073709551616 by decide)
    omega
  rw [e1, e2, u64_and_nat _ _ e3 (by omega)]
  exact u64_and_nat _ 9259542123273814144 (Nat.lt_of_le_of_lt Nat.and_le_left e3) (by decide)

set_option maxHeartbeats 400000 in
theorem below_any (v n : Nat) (w : World) (hv : v < 18446744073709551616) (hn : n ≤ 32) :
    Calls Try.prog 13 #[.int .u64 v, .int .u64 n] w fun e w' => e = .returned (.int .u64 (belowN v n : Nat)) ∧ w' = w := by
  go_enter Try.func13, Try.ntmps13
  go_wp2
  go_ret
  exact ⟨ret_int (below_eq v n hv), rfl⟩

theorem plain_eq (W : Nat) (hW : W < 18446744073709551616) :
    bits .or .u64 (bits .or .u64 (bits .or .u64 ((belowN W 32 : Nat) : Int) ((belowN (W ^^^ 2459565876494606882) 1 : Nat) : Int)) ((belowN (W ^^^ 6655295901103053916) 1 : Nat) : Int)) (bits .and .u64 (W : Int) 9259542123273814144) = ((plainN W : Nat) : Int) := by
  have l1 := below_lt W 32
  have l2 := below_lt (W ^^^ 2459565876494606882) 1
  have l3 := below_lt (W ^^^ 6655295901103053916) 1
  rw [u64_or_nat _ _ l1 l2, u64_or_nat _ _ (Nat.or_lt_two_pow (n := 64) l1 l2) l3]
  have e : bits .and .u64 (W : Int) 9259542123273814144 = ((W &&& 9259542123273814144 : Nat) : Int) := u64_and_nat W 9259542123273814144 hW (by decide)
  rw [e]
  exact u64_or_nat _ _ (Nat.or_lt_two_pow (n := 64) (Nat.or_lt_two_pow (n := 64) l1 l2) l3) (Nat.and_lt_two_pow (n := 64) _ (by decide))

theorem below_32 (W : Nat) (w : World) (hW : W < 18446744073709551616) :
    Calls Try.prog 13 #[.int .u64 W, .int .u64 32] w fun e w' => e = .returned (.int .u64 (belowN W 32 : Nat)) ∧ w' = w := below_any W 32 w hW (by decide)

theorem below_1 (x : Int) (v : Nat) (hx : x = v) (w : World) (hv : v < 18446744073709551616) :
    Calls Try.prog 13 #[.int .u64 x, .int .u64 1] w fun e w' => e = .returned (.int .u64 (belowN v 1 : Nat)) ∧ w' = w := by
  subst hx
  exact below_any v 1 w hv (by decide)

theorem xor_lt (W c : Nat) (hW : W < 18446744073709551616) (hc : c < 18446744073709551616) : W ^^^ c < 18446744073709551616 := Nat.xor_lt_two_pow (n := 64) hW hc

set_option maxHeartbeats 400000 in
theorem plain_any (W : Nat) (w : World) (hW : W < 18446744073709551616) :
    Calls Try.prog 10 #[.int .u64 W] w fun e w' => e = .returned (.bool (decide (plainN W = 0))) ∧ w' = w := by
  have x1 := xor_lt W 2459565876494606882 hW (by decide)
  have x2 := xor_lt W 6655295901103053916 hW (by decide)
  go_enter Try.func10, Try.ntmps10
  go_wp2_with fail
  refine (below_32 W _ hW).mono ?_
  rintro e w2 ⟨rfl, rfl⟩
  go_wp2_with fail
  refine (below_1 _ (W ^^^ 2459565876494606882) (u64_xor_nat W 2459565876494606882 hW (by decide)) _ x1).mono ?_
  rintro e w3 ⟨rfl, rfl⟩
  go_wp2_with fail
  refine (below_1 _ (W ^^^ 6655295901103053916) (u64_xor_nat W 6655295901103053916 hW (by decide)) _ x2).mono ?_
  rintro e w4 ⟨rfl, rfl⟩
  go_wp2
  go_ret
  refine ⟨ret_bool ?_, rfl⟩
  rw [plain_eq W hW]
  rw [Bool.eq_iff_iff]
  simp

set_option maxHeartbeats 400000 in
theorem zz_any (W : Nat) (w : World) (hW : W < 18446744073709551616) :
    Calls Try.prog 6 #[.int .u64 W] w fun e w' => e = .returned (.bool (decide (plainN W = 0))) ∧ w' = w := by
  have H := plain_any W w hW
  go_enter Try.func6, Try.ntmps6
  go_wp2_with (go_at_call 10; refine H.mono ?_; rintro e w2 ⟨rfl, rfl⟩)
  go_ret
  exact ⟨rfl, rfl⟩

def gB (b : Nat) : Bool := decide (32 ≤ b) && decide (b ≤ 127) && !(b == 34) && !(b == 92)

theorem gB_iff (b : Nat) : gB b = true ↔ Good b := by
  simp [gB, Good, and_assoc]

/-- Are the lowest k bytes of W good? -/
def goodB (W : Nat) : Nat → Bool
  | 0 => true
  | k + 1 => goodB W k && gB (W / 2 ^ (8 * k) % 256)

theorem mem_bytesN (b : Nat) : ∀ k W, b ∈ bytesN k W ↔ ∃ i, i < k ∧ b = W / 2 ^ (8 * i) % 256
  | 0, W => by simp [bytesN]
  | k + 1, W => by
    simp only [bytesN, List.mem_cons, mem_bytesN b k (W / 256)]
    have e : ∀ i, W / 256 / 2 ^ (8 * i) = W / 2 ^ (8 * (i + 1)) := by
      intro i
      rw [Nat.div_div_eq_div_mul, show 8 * (i + 1) = 8 + 8 * i by omega, Nat.pow_add]
    constructor
    · rintro (h | ⟨i, hi, h⟩)
      · exact ⟨0, by omega, by simpa using h⟩
      · exact ⟨i + 1, by omega, by rw [← e]; exact h⟩
    · rintro ⟨i, hi, h⟩
      cases i with
      | zero => exact .inl (by simpa using h)
      | succ j => exact .inr ⟨j, by omega, by rw [e]; exact h⟩

theorem goodB_all (W : Nat) : ∀ k, goodB W k = true ↔ ∀ i, i < k → Good (W / 2 ^ (8 * i) % 256)
  | 0 => by simp [goodB]
  | k + 1 => by
    simp only [goodB, Bool.and_eq_true, goodB_all W k, gB_iff]
    constructor
    · rintro ⟨h1, h2⟩ i hi
      by_cases h : i = k
      · subst h; exact h2
      · exact h1 i (by omega)
    · intro h
      exact ⟨fun i hi => h i (by omega), h k (by omega)⟩

theorem goodB_eight (W : Nat) (hW : W < 18446744073709551616) : goodB W 8 = decide (plainN W = 0) := by
  rw [Bool.eq_iff_iff, goodB_all, decide_eq_true_iff, plain_exact W hW]
  constructor
  · intro h b hb
    obtain ⟨i, hi, rfl⟩ := (mem_bytesN b 8 W).1 hb
    exact h i hi
  · intro h i hi
    exact h _ ((mem_bytesN _ 8 W).2 ⟨i, hi, rfl⟩)

theorem byte_cast (W k : Nat) : (W : Int) / 2 ^ (8 * k) % 256 = ((W / 2 ^ (8 * k) % 256 : Nat) : Int) := by
  rw [Int.natCast_emod, Int.natCast_ediv, Int.natCast_pow]
  rfl

theorem st_good (W k y : Nat) (hy : W / 2 ^ (8 * k) % 256 = y) (h : Good y) : goodB W k = goodB W (k + 1) := by
  simp only [goodB, hy, (gB_iff y).2 h, Bool.and_true]

theorem st_bad (W k y : Nat) (hy : W / 2 ^ (8 * k) % 256 = y) (h : ¬ Good y) : false = goodB W (k + 1) := by
  have : gB y = false := by
    cases hb : gB y
    · rfl
    · exact absurd ((gB_iff y).1 hb) h
  simp only [goodB, hy, this, Bool.and_false]

set_option maxHeartbeats 1000000 in
theorem law_any (W : Nat) (w : World) (hW : W < 18446744073709551616) :
    Calls Try.prog 3 #[.int .u64 W] w fun e w' => e = .returned (.bool true) ∧ w' = w := by
  go_enter Try.func3, Try.ntmps3
  go_wp2
  go_loop [3, 4] (fun b i => ∃ k : Nat, k ≤ 8 ∧ i = .int .i64 k ∧ b = .bool (goodB W k)) (fun _ i => 8 - (intOf i).toNat)
  case atStart => exact ⟨0, by omega, rfl, rfl⟩
  case round =>
    obtain ⟨k, hk, rfl, rfl⟩ := hrel
    by_cases hlt : k < 8
    · obtain ⟨y, hy⟩ : ∃ y, W / 2 ^ (8 * k) % 256 = y := ⟨_, rfl⟩
      have hb := byte_cast W k
      rw [hy] at hb
      have Hy : Hid (W / 2 ^ (8 * k) % 256 = y) := hy
      clear hy
      by_cases h1 : y < 32
      · go_wp2
        go_round
        case rel => exact ⟨k + 1, by omega, by go_num, congrArg Value.bool (st_bad W k y Hy.out (fun h => by unfold Good at h; omega))⟩
        case measure => simp [intOf]; omega
      · by_cases h2 : 127 < y
        · go_wp2
          go_round
          case rel => exact ⟨k + 1, by omega, by go_num, congrArg Value.bool (st_bad W k y Hy.out (fun h => by unfold Good at h; omega))⟩
          case measure => simp [intOf]; omega
        · by_cases h3 : y = 34
          · have h3' : ((y : Int) == 34) = true := by simp [h3]
            have H3 : Hid (y = 34) := h3
            clear h3
            go_wp2
            go_round
            case rel => exact ⟨k + 1, by omega, by go_num, congrArg Value.bool (st_bad W k y Hy.out (fun h => by unfold Good at h; have := H3.out; omega))⟩
            case measure => simp [intOf]; omega
          · have h3' : ((y : Int) == 34) = false := beq_eq_false_iff_ne.2 (by omega)
            by_cases h4 : y = 92
            · have h4' : ((y : Int) == 92) = true := by simp [h4]
              have H4 : Hid (y = 92) := h4
              clear h4 h3
              go_wp2
              go_round
              case rel => exact ⟨k + 1, by omega, by go_num, congrArg Value.bool (st_bad W k y Hy.out (fun h => by unfold Good at h; have := H4.out; omega))⟩
              case measure => simp [intOf]; omega
            · have h4' : ((y : Int) == 92) = false := beq_eq_false_iff_ne.2 (by omega)
              have HG : Hid (Good y) := by show Good y; unfold Good; omega
              clear h3 h4
              go_wp2
              go_round
              case rel => exact ⟨k + 1, by omega, by go_num, congrArg Value.bool (st_good W k y Hy.out HG.out)⟩
              case measure => simp [intOf]; omega
    · obtain rfl : k = 8 := by omega
      have h8 := goodB_eight W hW
      go_wp2_with (go_at_call 6; refine (zz_any W _ hW).mono ?_; rintro e w2 ⟨rfl, rfl⟩)
      go_ret
      exact ⟨ret_bool (by simp), rfl⟩

end Go.Proofs.Qxb6601667a
