/- The walk of FnNumericTextReadsBack (8). -/
import Derived.Test.Qxb6600826aReads
import Derived.Deep.DeepCutAuto
import Derived.Deep.CutBlock
import Derived.WalkSpells
namespace Go.Proofs.Qxb6600826a
open Go.RowKit

/-- The fact on the sign's byte. -/
theorem lay_head {neg : Bool} {scale : Int} {I F : List Int} {w : World} {g n cap s : Nat} (hl : Lay neg scale I F w g n cap s) (hne : 0 < I.length) (hd : Digs I) :
    ∃ x : Int, w.cell? ⟨g, 0, none⟩ = some (.int .u8 x) ∧ (x == 45) = neg := by
  cases neg with
  | true => exact ⟨45, hl.sign rfl, rfl⟩
  | false =>
    have h0 := hl.cI 0 hne
    have hs := hl.hs
    simp at hs
    subst hs
    refine ⟨I[0], by simpa using h0, ?_⟩
    have := hd I[0] (List.getElem_mem _)
    exact beq_eq_false_iff_ne.2 (by omega)

theorem lay_dig {neg : Bool} {scale : Int} {I F : List Int} {w : World} {g n cap s : Nat} (hl : Lay neg scale I F w g n cap s) (hd : Digs I) (m : Nat) (h1 : s ≤ m) (h2 : m < s + I.length) :
    ∃ x : Int, w.cell? ⟨g, m, none⟩ = some (.int .u8 x) ∧ 48 ≤ x ∧ x ≤ 57 := by
  obtain ⟨k, rfl⟩ : ∃ k, m = s + k := ⟨m - s, by omega⟩
  exact ⟨_, hl.cI k (by omega), hd _ (List.getElem_mem _)⟩

theorem lay_first {neg : Bool} {scale : Int} {I F : List Int} {w : World} {g n cap s : Nat} (hl : Lay neg scale I F w g n cap s) (h0 : 0 < I.length) (hh : 1 < I.length → I.head? ≠ some 48) :
    ∃ x : Int, w.cell? ⟨g, s, none⟩ = some (.int .u8 x) ∧ (1 < I.length → (x == 48) = false) := by
  refine ⟨I[0], by simpa using hl.cI 0 h0, fun h => ?_⟩
  have := hh h
  rw [List.head?_eq_getElem?, List.getElem?_eq_getElem h0] at this
  exact beq_eq_false_iff_ne.2 (fun e => this (by rw [e]))

theorem lay_frac {neg : Bool} {scale : Int} {I F : List Int} {w : World} {g n cap s : Nat} (hl : Lay neg scale I F w g n cap s) (hs : ¬ scale = 0) (hd : Digs F) (m : Nat) (h1 : s + I.length + 1 ≤ m) (h2 : m < n) :
    ∃ x : Int, w.cell? ⟨g, m, none⟩ = some (.int .u8 x) ∧ 48 ≤ x ∧ x ≤ 57 := by
  have := hl.n1 hs
  obtain ⟨k, rfl⟩ : ∃ k, m = s + I.length + 1 + k := ⟨m - (s + I.length + 1), by omega⟩
  exact ⟨_, hl.cF hs k (by omega), hd _ (List.getElem_mem _)⟩

theorem srcAt {w : World} {g o m c : Nat} (news : List Int) (hm : news.length = m) (hnews : ∀ j (hj : j < news.length), w.cell? ⟨g, o + j, none⟩ = some (.int .u8 news[j])) :
    Src Try.prog 1 27 (.slice (some ⟨g, o, none⟩) m c) news.length (cellsOf8 news) w := by
  subst hm
  exact srcBytes w Try.underlying27 ⟨g, o, none⟩ c news (fun j hj => by rw [Addr.add_lit]; exact hnews j hj)

theorem srcEmpty (w : World) (ao : Option Addr) (m c : Nat) (news : List Int) (hm : m = 0) (hn : news.length = 0) : Src Try.prog 1 27 (.slice ao m c) news.length (cellsOf8 news) w := by
  subst hm
  obtain rfl := List.eq_nil_of_length_eq_zero hn
  cases ao with
  | none => exact srcNil w Try.underlying27 c
  | some a => exact srcBytes w Try.underlying27 a c [] (fun j hj => by simp at hj)

/-- The row of all digits: zeros, the digits, zeros. -/
structure Row (D : ByteArray) (z t : Nat) (w : World) (g N cap : Nat) : Prop where
  hN : N = z + D.size + t
  hcap : N ≤ cap
  h63 : cap ≤ 9223372036854775807
  lead : ∀ j, j < z → w.cell? ⟨g, j, none⟩ = some (.int .u8 48)
  mid : ∀ j (h : j < (bytesOf D).length), w.cell? ⟨g, z + j, none⟩ = some (.int .u8 (bytesOf D)[j])
  tail : ∀ j, z + D.size ≤ j → j < N → w.cell? ⟨g, j, none⟩ = some (.int .u8 48)

theorem row_of {D : ByteArray} {z t : Nat} {w : World} {g N cap : Nat} (hN : N = z + D.size + t) (ho : Own w (.slice (some ⟨g, 0, none⟩) N cap) (List.replicate z 48 ++ (bytesOf D ++ List.replicate t 48))) : Row D z t w g N cap := by
  have hln := bytesOf_length D
  rcases ho.form with ⟨e, _⟩ | ⟨g', cap', e, hc, h63, hg, hcell⟩
  · cases e
  · simp only [Value.slice.injEq, Option.some.injEq, Addr.mk.injEq, and_true] at e
    obtain ⟨rfl, _, rfl⟩ := e
    have key : ∀ j x, (List.replicate z (48 : Int) ++ (bytesOf D ++ List.replicate t 48))[j]? = some x → w.cell? ⟨g, j, none⟩ = some (.int .u8 x) := by
      intro j x hx
      obtain ⟨hj, e⟩ := List.getElem?_eq_some_iff.1 hx
      rw [hcell j hj, e]
    have hl : (List.replicate z (48 : Int) ++ (bytesOf D ++ List.replicate t 48)).length = N := by simp; omega
    refine ⟨hN, by rw [hl] at hc; exact hc, by simpa [maxLen] using h63, ?_, ?_, ?_⟩
    · intro j hj; apply key; rw [List.getElem?_append_left (by simpa using hj)]; simp [hj]
    · intro j hj; apply key
      rw [List.getElem?_append_right (by simp), List.length_replicate, Nat.add_sub_cancel_left, List.getElem?_append_left hj, List.getElem?_eq_getElem hj]
    · intro j h1 h2; apply key
      rw [List.getElem?_append_right (by simp; omega), List.length_replicate, List.getElem?_append_right (by omega), List.getElem?_replicate, if_pos (by omega)]

theorem row_first {D : ByteArray} {z t : Nat} {w : World} {g N cap : Nat} (hr : Row D z t w g N cap) {point scale : Int} (hv : Valid (bytesOf D) point scale) (hp : 0 < D.size) :
    ∃ x : Int, w.cell? ⟨g, z, none⟩ = some (.int .u8 x) ∧ (x == 48) = false := by
  have hln := bytesOf_length D
  refine ⟨(bytesOf D)[0], by simpa using hr.mid 0 (by omega), beq_eq_false_iff_ne.2 (fun e => ?_)⟩
  rcases hv.2 with ⟨h, _⟩ | ⟨_, h, _⟩
  · rw [h] at hln; simp at hln; omega
  · exact h (by rw [List.head?_eq_getElem?, List.getElem?_eq_getElem (by omega), e])

theorem row_last {D : ByteArray} {z t : Nat} {w : World} {g N cap : Nat} (hr : Row D z t w g N cap) {point scale : Int} (hv : Valid (bytesOf D) point scale) (hp : 0 < D.size) (m : Nat) (hm : m + 1 = z + D.size) :
    ∃ x : Int, w.cell? ⟨g, m, none⟩ = some (.int .u8 x) ∧ (x == 48) = false := by
  have hln := bytesOf_length D
  obtain rfl : m = z + (D.size - 1) := by omega
  refine ⟨(bytesOf D)[D.size - 1]'(by omega), hr.mid (D.size - 1) (by omega), beq_eq_false_iff_ne.2 (fun e => ?_)⟩
  rcases hv.2 with ⟨h, _⟩ | ⟨_, _, h, _⟩
  · rw [h] at hln; simp at hln; omega
  · exact h (by rw [List.getLast?_eq_getElem?, hln, List.getElem?_eq_getElem (by omega), e])

theorem strOfNums_bytesOf (D : ByteArray) : strOfNums (bytesOf D) = D := by
  have : (strOfNums (bytesOf D)).data.toList = D.data.toList := by
    rw [strOfNums_data, bytesOf, List.map_map]
    conv => rhs; rw [← List.map_id D.data.toList]
    apply List.map_congr_left
    intro b _
    simp
  cases h : strOfNums (bytesOf D)
  cases D
  rw [h] at this
  congr 1
  exact Array.toList_inj.1 this

theorem row_str {D : ByteArray} {z t : Nat} {w : World} {g N cap : Nat} (hr : Row D z t w g N cap) (l c : Nat) (hl : l = D.size) :
    (convert 27 9 (.slice (some ⟨g, z, none⟩) l c)).run Try.prog w = .ok (.string D) w := by
  have hln := bytesOf_length D
  have := run_convert_bytes_arg (P := Try.prog) w 27 5 Try.underlying27 Try.underlying5 g z l c (bytesOf D) (by omega) (fun i hi => by
    rw [hr.mid i (by omega)]
    simp [List.getD, List.getElem?_eq_getElem (show i < (bytesOf D).length by omega)]) 9 Try.underlying9
  rw [strOfNums_bytesOf] at this
  exact this

set_option maxRecDepth 100000 in
set_option maxHeartbeats 2000000 in
theorem back_in (neg : Bool) (D : ByteArray) (point scale : Int) (w : World) (hD : D.size ≤ 65536) (h1 : -65536 ≤ point) (h2 : point ≤ 65536) (h3 : 0 ≤ scale) (h4 : scale ≤ 65536) :
    Calls Try.prog 8 #[.bool neg, .string D, .int .i64 point, .int .i64 scale] w fun e w' => e = .returned (.bool true) ∧ Below w.heap.size w w' := by
  obtain ⟨i0, hi, hz0, hz1, hz2⟩ := info_parts info5
  go_enter Try.func8, Try.ntmps8
  go_wp2_with (first | (go_at_call 25; refine (zb_any _ _ _ _ _ hD).mono ?_; rintro e w2 ⟨rfl, rfl⟩) | (go_at_call 21; refine (valid_any _ _ _ _ hD h1 h2 h3 h4).mono ?_; rintro e w2 ⟨b, rfl, rfl, hb⟩))
  · go_ret
    exact ⟨rfl, Below.refl _ _⟩
  · have hv : Valid (bytesOf D) point scale := hb (by cases b <;> simp_all)
    clear hb
    obtain ⟨I, F, z, t, hP⟩ := parts neg _ _ _ hv
    refine (zz_text D point scale neg w2 hD h1 h2 h4 hv I F z t hP).mono ?_
    rintro e w3 ⟨g, n, cap, s, rfl, hg, hl, hbel⟩
    have hI0 : 0 < I.length := List.length_pos_iff.2 hP.ne
    obtain ⟨x0, hx0, hx0n⟩ := lay_head hl hI0 hP.dI
    have hsn : s ≤ 1 := by rw [hl.hs]; split <;> omega
    have hcap := hl.hcap
    have hcap63 := hl.cap63
    have hsh := hP.short
    have hF := hP.frac
    unfold maxLen at hcap63
    have hn : s + I.length ≤ n ∧ n ≤ s + I.length + 1 + F.length := by
      by_cases hsc : scale = 0
      · have := hl.n0 hsc; omega
      · have := hl.n1 hsc; omega
    obtain ⟨hn1, hn2⟩ := hn
    obtain ⟨a, ha⟩ : ∃ a, a = I.length := ⟨_, rfl⟩
    obtain ⟨f, hf⟩ : ∃ f, f = F.length := ⟨_, rfl⟩
    rw [← ha] at hI0 hsh hn1 hn2
    rw [← hf] at hF hn2
    have Hf : Hid ((f : Int) = scale) := hF
    have Ha : Hid (a = I.length) := ha
    have Hf2 : Hid (f = F.length) := hf
    have hfb : (f : Int) ≤ 65536 := by omega
    have hab : a ≤ 65536 := by omega
    have hnb : n ≤ 200000 := by omega
    have HL : Hid (Lay neg scale I F w3 g n cap s) := hl
    have HP : Hid (Parts neg (bytesOf D) point scale I F z t) := hP
    have HV : Hid (Valid (bytesOf D) point scale) := hv
    clear hl hP hv hsh hF ha hf
    go_upto_if 64 with fail
    go_cut [10, 11] (fun i gn wx => i = .int .i64 s ∧ gn = .bool neg ∧ w3 = wx)
    case first =>
      as_aux_lemma =>
        have Hs := HL.out.hs
        cases neg
        · obtain rfl : s = 0 := Hs
          go_wp2
          go_meet
          case rel => exact ⟨rfl, rfl, rfl⟩
        · obtain rfl : s = 1 := Hs
          go_wp2
          go_meet
          case rel => exact ⟨rfl, rfl, rfl⟩
    case rest =>
      obtain ⟨rfl, rfl, rfl⟩ := hcut
      go_upto_block 0 with fail
      go_cut [10] (fun i wx => i = .int .i64 ((s : Int) + a) ∧ w3 = wx)
      case first =>
        as_aux_lemma =>
          go_wp2_with fail
          go_loop [10] (fun i => ∃ m : Nat, s ≤ m ∧ m ≤ s + a ∧ i = .int .i64 m) (fun i => n - (intOf i).toNat)
          case atStart => exact ⟨s, Nat.le_refl _, by omega, rfl⟩
          case round =>
            obtain ⟨m, hm1, hm2, rfl⟩ := hrel
            by_cases hlt : m < s + a
            · obtain ⟨x, hx, hxl, hxh⟩ := lay_dig HL.out HP.out.dI m hm1 (by have := Ha.out; omega)
              go_wp2
              go_round
              case rel => exact ⟨m + 1, by omega, by omega, by go_num⟩
              case measure => simp [intOf]; omega
            · obtain rfl : m = s + a := by omega
              by_cases hsc : scale = 0
              · have hnn : n = s + a := by have := HL.out.n0 hsc; have := Ha.out; omega
                have Hnn : Hid (n = s + a) := hnn
                have hge : (n : Int) ≤ (s : Int) + a := by omega
                clear hnn hsc
                go_wp2
                go_meet
                case rel => exact ⟨by go_num, rfl⟩
              · have hnn : s + a < n := by have := HL.out.n1 hsc; have := Ha.out; omega
                have hx : w3.cell? ⟨g, s + a, none⟩ = some (.int .u8 46) := by have := HL.out.dot hsc; rw [← Ha.out] at this; exact this
                go_wp2
                go_meet
                case rel => exact ⟨by go_num, rfl⟩
      case rest =>
        obtain ⟨rfl, rfl⟩ := hcut
        obtain ⟨x1, hx1, hx1n⟩ := lay_first HL.out (by have := Ha.out; omega) HP.out.lead
        rw [← Ha.out] at hx1n
        go_upto_region 18 with fail
        go_cut [13] (fun il wx => il = .int .i64 a ∧ w3 = wx)
        case first =>
          as_aux_lemma =>
            go_wp2
            go_meet
            case rel => exact ⟨by go_num, rfl⟩
        case rest =>
          obtain ⟨rfl, rfl⟩ := hcut
          go_upto_region 19 with fail
          go_cut [103] (fun c wx => c = .bool false ∧ w3 = wx)
          case first =>
            as_aux_lemma =>
              by_cases ha1 : 1 < a
              · have hq := hx1n ha1
                go_wp2
                go_meet
                case rel => exact ⟨congrArg Value.bool (beq_eq_false_iff_ne.2 (by omega)), rfl⟩
              · go_wp2
                go_meet
                case rel => exact ⟨congrArg Value.bool (beq_eq_false_iff_ne.2 (by omega)), rfl⟩
          case rest =>
            obtain ⟨rfl, rfl⟩ := hcut
            clear hx1 hx1n hx0 hx0n
            go_upto_if 108 with fail
            go_cut [10, 14, 15] (fun i fs sc wx => ∃ fsN : Nat, i = .int .i64 n ∧ fs = .int .i64 fsN ∧ fsN + f = n ∧ s + a ≤ fsN ∧ sc = .int .i64 f ∧ w3 = wx ∧ Hid (∀ k (h : k < F.length), w3.cell? ⟨g, fsN + k, none⟩ = some (.int .u8 F[k])))
            case first =>
              as_aux_lemma =>
                by_cases hsc : scale = 0
                · have hnn : n = s + a := by have := HL.out.n0 hsc; have := Ha.out; omega
                  have hf0 : f = 0 := by have := Hf.out; omega
                  have Hnn : Hid (n = s + a) := hnn
                  have Hf0 : Hid (f = 0) := hf0
                  have hge : (n : Int) ≤ (s : Int) + a := by omega
                  clear hnn hsc hf0
                  go_wp2
                  go_meet
                  case rel => exact ⟨s + a, by have := Hnn.out; go_num, by go_num, by have := Hnn.out; have := Hf0.out; omega, Nat.le_refl _, by have := Hf0.out; go_num, rfl, fun k hk => by have := Hf0.out; have := Hf2.out; omega⟩
                · have hnn : s + a + 1 + f = n := by have := HL.out.n1 hsc; have := Ha.out; have := Hf2.out; omega
                  have hx : w3.cell? ⟨g, s + a, none⟩ = some (.int .u8 46) := by have := HL.out.dot hsc; rw [← Ha.out] at this; exact this
                  have hlt : s + a < n := by omega
                  have hf0 : 0 < f := by have := Hf.out; omega
                  have Hnn : Hid (s + a + 1 + f = n) := hnn
                  clear hnn
                  go_wp2
                  go_loop [10] (fun i => ∃ m : Nat, s + a + 1 ≤ m ∧ m ≤ n ∧ i = .int .i64 m) (fun i => n - (intOf i).toNat)
                  case atStart => exact ⟨s + a + 1, Nat.le_refl _, by omega, by go_num⟩
                  case round =>
                    obtain ⟨m, hm1, hm2, rfl⟩ := hrel
                    by_cases hlm : m < n
                    · obtain ⟨x, hx, hxl, hxh⟩ := lay_frac HL.out hsc HP.out.dF m (by have := Ha.out; omega) hlm
                      go_wp2
                      go_round
                      case rel => exact ⟨m + 1, by omega, by omega, by go_num⟩
                      case measure => simp [intOf]; omega
                    · obtain rfl : n = m := by omega
                      have hq : ((n : Int) - (s + a + 1) == 0) = false := beq_eq_false_iff_ne.2 (by have := Hnn.out; omega)
                      go_wp2
                      go_meet
                      case rel => exact ⟨s + a + 1, rfl, by go_num, Hnn.out, by omega, by have := Hnn.out; go_num, rfl, fun k hk => by have := HL.out.cF hsc k hk; rw [← Ha.out] at this; exact this⟩
            case rest =>
              obtain ⟨fsN, rfl, rfl, hfs, hfs2, rfl, rfl, HF⟩ := hcut
              have hfs1 : fsN + f ≤ n := by omega
              have Hfs : Hid (fsN + f = n) := hfs
              clear hfs
              have hII : ∀ k (h : k < I.length), w3.cell? ⟨g, s + k, none⟩ = some (.int .u8 I[k]) := HL.out.cI
              have HII : Hid (∀ k (h : k < I.length), w3.cell? ⟨g, s + k, none⟩ = some (.int .u8 I[k])) := hII
              clear hII
              go_upto_region 36 with (at_make; refine wpList_make_own _ rfl _ _ 27 rfl 0 5 i0 (.int .u8 0) 1 Try.underlying27 hi hz0 hz1 _ _ _ (a + f) rfl rfl (by omega) (by rw [hz2]; omega) (by unfold maxLen; omega) (Nat.zero_le _) ?_; intro w4 hown4 hgrow4)
              have ho4 : Own w4 (.slice (some ⟨w3.heap.size, 0, none⟩) 0 (a + f)) [] := hown4
              have hI4 : Hid (∀ k (h : k < I.length), w4.cell? ⟨g, s + k, none⟩ = some (.int .u8 I[k])) := fun k h => hgrow4.cell (HII.out k h) (by simp)
              have hF4 : Hid (∀ k (h : k < F.length), w4.cell? ⟨g, fsN + k, none⟩ = some (.int .u8 F[k])) := fun k h => hgrow4.cell (HF.out k h) (by simp)
              have hb4 : Below w2.heap.size w2 w4 := hbel.grown hgrow4 hbel.size (by simp)
              clear hown4 hgrow4
              have hsc : s < cap := by omega
              go_upto_region 37 with (at_builtin; refine wpList_append_form _ rfl _ _ 27 27 rfl i0 Try.underlying27 hi hz0 hz1 hz2 (.slice (some ⟨w3.heap.size, 0, none⟩) 0 (a + f)) [] rfl ho4 _ rfl I (srcAt I (by have := Ha.out; omega) hI4.out) (by simp; have := Ha.out; omega) a (by simp [Ha.out]) hI0 ?_; intro g5 cap5 w5 ho5 hs5 hg5 hN5 hc5 hcell5)
              have hgs : some g ≠ (Value.slice (some ⟨w3.heap.size, 0, none⟩) 0 (a + f)).ownBlock := by simp [Value.ownBlock]; omega
              have hF5 : Hid (∀ k (h : k < F.length), w5.cell? ⟨g, fsN + k, none⟩ = some (.int .u8 F[k])) := fun k h => hs5.grown.cell (hF4.out k h) hgs
              have hb5 : Below w2.heap.size w2 w5 := hb4.grown hs5.grown hb4.size (by intro k hk; simp [Value.ownBlock] at hk; have := hbel.size; omega)
              have hg5b : w2.heap.size ≤ g5 := by
                rcases hs5.lies with e | ⟨k, e, hk⟩
                · simp [Value.ownBlock] at e; have := hbel.size; omega
                · simp [Value.ownBlock] at e; have := hb4.size; omega
              have HO5 : Hid (Own w5 (.slice (some ⟨g5, 0, none⟩) a cap5) I) := ho5
              clear ho5 hs5 hcell5 ho4 hI4 hF4 hb4 HII HF hgs
              go_cut [9, 16] (fun _ v wx => ∃ g6 cap6, v = .slice (some ⟨g6, 0, none⟩) (a + f) cap6 ∧ Hid (Own wx (.slice (some ⟨g6, 0, none⟩) (a + f) cap6) (I ++ F)) ∧ Below w2.heap.size w2 wx)
              case first =>
                as_aux_lemma =>
                  by_cases hfc : fsN < cap
                  · go_wp2_with (at_builtin; refine wpList_append_form _ rfl _ _ 27 27 rfl i0 Try.underlying27 hi hz0 hz1 hz2 (.slice (some ⟨g5, 0, none⟩) a cap5) I rfl HO5.out _ rfl F (srcAt F (by have := Hf2.out; omega) hF5.out) (by have := Ha.out; have := Hf2.out; omega) (a + f) (by rw [← Ha.out, ← Hf2.out]) (by omega) ?_; intro g6 cap6 w6 ho6 hs6 hg6 hN6 hc6 hcell6)
                    go_meet
                    case rel => exact ⟨g6, cap6, rfl, ho6, hb5.grown hs6.grown hb5.size (by intro k hk; simp [Value.ownBlock] at hk; omega)⟩
                  · have hf0 : Hid (f = 0) := by show f = 0; omega
                    go_wp2_with (at_builtin; refine wpList_append_form _ rfl _ _ 27 27 rfl i0 Try.underlying27 hi hz0 hz1 hz2 (.slice (some ⟨g5, 0, none⟩) a cap5) I rfl HO5.out _ rfl F (srcEmpty _ _ _ _ F (by have := hf0.out; omega) (by have := Hf2.out; have := hf0.out; omega)) (by have := Ha.out; have := Hf2.out; omega) (a + f) (by rw [← Ha.out, ← Hf2.out]) (by omega) ?_; intro g6 cap6 w6 ho6 hs6 hg6 hN6 hc6 hcell6)
                    go_meet
                    case rel => exact ⟨g6, cap6, rfl, ho6, hb5.grown hs6.grown hb5.size (by intro k hk; simp [Value.ownBlock] at hk; omega)⟩
              case rest =>
                obtain ⟨g6, cap6, rfl, HO6, hb6⟩ := hcut
                clear hF5 hb5 HO5
                have hAll := HP.out.all
                have HA : Hid (I ++ F = List.replicate z 48 ++ (bytesOf D ++ List.replicate t 48)) := hAll
                have hlen : a + f = z + D.size + t := by
                  have := congrArg List.length hAll
                  simp only [List.length_append, List.length_replicate, bytesOf_length] at this
                  have := Ha.out; have := Hf2.out; omega
                clear hAll
                have HO7 : Hid (Own wc (.slice (some ⟨g6, 0, none⟩) (a + f) cap6) (List.replicate z 48 ++ (bytesOf D ++ List.replicate t 48))) := by
                  show Own _ _ _
                  rw [← HA.out]; exact HO6.out
                obtain ⟨N, hN⟩ : ∃ N, N = a + f := ⟨_, rfl⟩
                have HN : Hid (N = a + f) := hN
                rw [← hN] at HO7 hlen ⊢
                have HR : Hid (Row D z t wc g6 N cap6) := row_of hlen HO7.out
                have hc6 := HR.out.hcap
                have hc63 := HR.out.h63
                have hNb : N ≤ 200000 := by omega
                clear HO6 HO7 HA hlen hN
                by_cases hpos : 0 < D.size
                · as_aux_lemma =>
                    obtain ⟨x, hx, hxn⟩ := row_first HR.out HV.out hpos
                    have hzN : z < N := by have := HR.out.hN; omega
                    go_wp2_with fail
                    go_loop [17] (fun i => ∃ m : Nat, m ≤ z ∧ i = .int .i64 m) (fun i => N - (intOf i).toNat)
                    case atStart => exact ⟨0, Nat.zero_le _, rfl⟩
                    case round =>
                      obtain ⟨m, hm, rfl⟩ := hrel
                      by_cases hlt : m < z
                      · have hx2 := HR.out.lead m hlt
                        go_wp2
                        go_round
                        case rel => exact ⟨m + 1, by omega, by go_num⟩
                        case measure => simp [intOf]; omega
                      · obtain rfl : z = m := by omega
                        go_wp2
                        go_loop [20] (fun i => ∃ m : Nat, z + D.size ≤ m + 1 ∧ m < N ∧ i = .int .i64 m) (fun i => (intOf i).toNat)
                        case atStart => exact ⟨N - 1, by have := HR.out.hN; omega, by omega, by go_num⟩
                        case round =>
                          obtain ⟨m, hm1, hm2, rfl⟩ := hrel
                          by_cases hlt2 : z + D.size ≤ m
                          · have hx3 := HR.out.tail m hlt2 hm2
                            go_wp2
                            go_round
                            case rel => exact ⟨m - 1, by omega, by omega, by go_num⟩
                            case measure => simp [intOf]; omega
                          · have hm3 : m + 1 = z + D.size := by omega
                            obtain ⟨y, hy, hyn⟩ := row_last HR.out HV.out hpos m hm3
                            have Hm3 : Hid (m + 1 = z + D.size) := hm3
                            have hzm : z ≤ m := by omega
                            have hcv : ∀ c, (convert 27 9 (.slice (some ⟨g6, z, none⟩) (m + 1 - z) c)).run Try.prog wc = .ok (.string D) wc := fun c => row_str HR.out (m + 1 - z) c (by omega)
                            have hpt : ((a : Int) - z == point) = true := beq_iff_eq.2 (by have := HP.out.pt (fun e => by have := bytesOf_length D; rw [e] at this; simp at this; omega); rw [← Ha.out] at this; exact this)
                            have hsc2 : ((f : Int) == scale) = true := beq_iff_eq.2 Hf.out
                            clear hm3
                            go_wp2
                            go_ret
                            exact ⟨rfl, hb6⟩
                · as_aux_lemma =>
                    have hD0 : D.size = 0 := by omega
                    have hB0 : bytesOf D = [] := List.eq_nil_of_length_eq_zero (by rw [bytesOf_length, hD0])
                    have hpt : ((0 : Int) == point) = true := by
                      rcases HV.out.2 with ⟨_, h⟩ | ⟨h, _⟩
                      · rw [h]; rfl
                      · exact absurd hB0 h
                    have hsc2 : ((f : Int) == scale) = true := beq_iff_eq.2 Hf.out
                    have hall : Hid (∀ j, j < N → wc.cell? ⟨g6, j, none⟩ = some (.int .u8 48)) := by
                      intro j hj
                      by_cases h : j < z
                      · exact HR.out.lead j h
                      · exact HR.out.tail j (by omega) hj
                    have hDl : D.toList = [] := by
                      rw [ByteArray.toList_eq]
                      exact List.eq_nil_of_length_eq_zero (by rw [Array.length_toList]; exact hD0)
                    clear hD0 hB0 HR hpos
                    go_wp2_with fail
                    go_loop [17] (fun i => ∃ m : Nat, m ≤ N ∧ i = .int .i64 m) (fun i => N - (intOf i).toNat)
                    case atStart => exact ⟨0, Nat.zero_le _, rfl⟩
                    case round =>
                      obtain ⟨m, hm, rfl⟩ := hrel
                      by_cases hlt : m < N
                      · have hx2 := hall.out m hlt
                        go_wp2
                        go_round
                        case rel => exact ⟨m + 1, by omega, by go_num⟩
                        case measure => simp [intOf]; omega
                      · obtain rfl : N = m := by omega
                        go_wp2
                        go_ret
                        exact ⟨rfl, hb6⟩

end Go.Proofs.Qxb6600826a
