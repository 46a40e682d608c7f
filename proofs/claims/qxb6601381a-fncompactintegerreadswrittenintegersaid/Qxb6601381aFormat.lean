/- The walk of b1FormatInt (13). -/
import Derived.Test.Qxb6601381aModel
import Derived.Test.Qxb6601381aPlainB
namespace Go.Proofs.Qxb6601381a
open Go.RowKit

/-- The local array buf, in the block that was new when the call began: its last cells hold L. -/
structure Buf (w wx : World) (L : List Int) : Prop where
  len : L.length ≤ 20
  bel : Below w.heap.size w wx
  row : ∃ cur : Array Value, wx.heap[w.heap.size]? = some (.cells cur 53 (0, 0)) ∧ cur.size = 20 ∧ ∀ j (h : j < L.length), cur[20 - L.length + j]? = some (.int .u8 L[j])

theorem Buf.lt {w wx : World} {L : List Int} (h : Buf w wx L) : w.heap.size < wx.heap.size := by
  obtain ⟨cur, h1, _⟩ := h.row
  exact (Array.getElem?_eq_some_iff.1 h1).1

theorem Buf.cell {w wx : World} {L : List Int} (h : Buf w wx L) (q : Nat) (hq : q < 20) : ∃ u, wx.cell? ⟨w.heap.size, q, none⟩ = some u := by
  obtain ⟨cur, h1, h2, _⟩ := h.row
  rw [cell_of_row wx w.heap.size q cur 53 (0, 0) h1]
  exact ⟨_, Array.getElem?_eq_getElem (by omega)⟩

theorem Buf.frozen {w wx : World} {L : List Int} (h : Buf w wx L) (q : Nat) : wx.frozen? ⟨w.heap.size, q, none⟩ = false := by
  obtain ⟨cur, h1, _⟩ := h.row
  exact frozen_of_row wx w.heap.size q cur 53 h1

theorem Buf.at {w wx : World} {L : List Int} (h : Buf w wx L) (j q : Nat) (hj : j < L.length) (hq : q + L.length = 20 + j) : wx.cell? ⟨w.heap.size, q, none⟩ = some (.int .u8 L[j]) := by
  obtain ⟨cur, h1, h2, h3⟩ := h.row
  rw [cell_of_row wx w.heap.size q cur 53 (0, 0) h1, ← h3 j hj]
  congr 1
  have := h.len
  omega

theorem Buf.push {w wx : World} {L : List Int} (h : Buf w wx L) (q : Nat) (c : Int) (hq : q + L.length + 1 = 20) : Buf w (wx.setCell ⟨w.heap.size, q, none⟩ (.int .u8 c)) (c :: L) := by
  obtain ⟨cur, h1, h2, h3⟩ := h.row
  refine ⟨by simp; omega, h.bel.setCell (Nat.le_refl _) _, cur.setIfInBounds q (.int .u8 c), heap_setCell_same wx w.heap.size q cur 53 _ h1, by simpa using h2, ?_⟩
  intro j hj
  cases j with
  | zero =>
    have e : 20 - (c :: L).length + 0 = q := by simp; omega
    rw [e, Array.getElem?_setIfInBounds_self_of_lt (by omega)]
    rfl
  | succ j =>
    have e : 20 - (c :: L).length + (j + 1) = 20 - L.length + j := by simp; omega
    have hj' : j < L.length := by simpa using hj
    rw [e, Array.getElem?_setIfInBounds_ne (by omega), h3 j hj']
    rfl

theorem Buf.new (w : World) (cs : Array Value) (h : cs.size = 20) : Buf w (w.alloc (.cells cs 53)) [] :=
  ⟨by simp, (Below.refl _ _).alloc (Nat.le_refl _) _, cs, heap_alloc_new w _, h, fun j hj => by simp at hj⟩

theorem Buf.step {w wx wy : World} {L : List Int} (h : Buf w wx L) (hb : Below wx.heap.size wx wy) : Buf w wy L := by
  obtain ⟨cur, h1, h2, h3⟩ := h.row
  refine ⟨h.len, h.bel.trans (hb.mono h.bel.size), cur, ?_, h2, h3⟩
  rw [hb.block _ (Array.getElem?_eq_some_iff.1 h1).1]
  exact h1

set_option maxRecDepth 100000 in
set_option maxHeartbeats 2000000 in
theorem fmt_any (v : Int) (w : World) (hv1 : -9223372036854775808 ≤ v) (hv2 : v ≤ 9223372036854775807) : Calls Try.prog 13 #[.int .i64 v] w (Makes w (fmtL v)) := by
  obtain ⟨i0, hi, hz0, hz1, hz2⟩ := info_parts info5
  obtain ⟨ng, hng⟩ : ∃ ng, decide (v < 0) = ng := ⟨_, rfl⟩
  have Hng : Hid (decide (v < 0) = ng) := hng
  obtain ⟨M, hM⟩ : ∃ M, M = v.natAbs := ⟨_, rfl⟩
  have HM : Hid (M = v.natAbs) := hM
  have hMb : M ≤ 9223372036854775808 := by omega
  clear hM
  go_enter Try.func13, Try.ntmps13
  go_upto_if 11 with fail
  clear hng
  go_cut [6] (fun m wx => m = .int .u64 M ∧ Hid (Buf w wx []))
  case first =>
    as_aux_lemma =>
      cases ng
      · have h0 : 0 ≤ v := by have := of_decide_eq_false Hng.out; omega
        go_wp2
        go_meet
        case rel => exact ⟨by have := HM.out; go_num, Buf.new w _ rfl⟩
      · have h0 : v < 0 := of_decide_eq_true Hng.out
        go_wp2
        go_meet
        case rel => exact ⟨by have := HM.out; go_num, Buf.new w _ rfl⟩
  case rest =>
    obtain ⟨rfl, HB⟩ := hcut
    obtain ⟨wa, hwa⟩ : ∃ wa, wa = wc := ⟨_, rfl⟩
    subst hwa
    go_upto_if 20 with fail
    go_cut [4] (fun p wx => ∃ (P : Nat) (L : List Int), p = .int .i64 P ∧ Hid (P + L.length = 20) ∧ Hid (Buf w wx L) ∧ Hid (L = if M = 0 then [48] else []))
    case first =>
      by_cases hM0 : M = 0
      · have h0 : ((M : Int) == 0) = true := by simp [hM0]
        have HM0 : Hid (M = 0) := hM0
        obtain ⟨u, hu⟩ := HB.out.cell 19 (by decide)
        have hf := HB.out.frozen 19
        clear hM0
        go_wp2
        go_meet
        case rel => exact ⟨19, [48], rfl, rfl, HB.out.push 19 48 rfl, by show [48] = _; rw [if_pos HM0.out]⟩
      · have h0 : ((M : Int) == 0) = false := beq_eq_false_iff_ne.2 (by omega)
        have HM0 : Hid (¬ M = 0) := hM0
        clear hM0
        go_wp2
        go_meet
        case rel => exact ⟨20, [], rfl, rfl, HB, by show [] = _; rw [if_neg HM0.out]⟩
    case rest =>
      obtain ⟨P0, L0, rfl, HP0, HB0, HL0⟩ := hcut
      go_upto_block 0 with fail
      go_cut [4, 6] (fun p _ wx => ∃ P : Nat, p = .int .i64 P ∧ Hid (P + (magL M).length = 20) ∧ Hid (Buf w wx (magL M)))
      case first =>
        as_aux_lemma =>
          have hst : Hid (∃ f, M < 10 ^ f ∧ f + L0.length ≤ 19 ∧ magL M = dgF f M ++ L0) := by
            have hL := HL0.out
            by_cases hM0 : M = 0
            · rw [if_pos hM0] at hL
              subst hL
              exact ⟨1, by rw [hM0]; decide, by simp, by rw [hM0]; rfl⟩
            · rw [if_neg hM0] at hL
              subst hL
              exact ⟨19, by have : (10 : Nat) ^ 19 = 10000000000000000000 := by decide
                            omega, by simp, by unfold magL; rw [if_neg hM0, List.append_nil]⟩
          go_wp2_with fail
          go_loopw [4, 6] (fun p m wr => ∃ (P q f : Nat) (L : List Int), p = .int .i64 P ∧ m = .int .u64 q ∧ q ≤ 9223372036854775808 ∧ Hid (P + L.length = 20) ∧ Hid (Buf w wr L) ∧ Hid (q < 10 ^ f ∧ f + L.length ≤ 19 ∧ magL M = dgF f q ++ L)) (fun _ m _ => (intOf m).toNat)
          case atStart =>
            obtain ⟨f, h1, h2, h3⟩ := hst.out
            exact ⟨P0, M, f, L0, rfl, rfl, hMb, HP0, HB0, h1, h2, h3⟩
          case round =>
            obtain ⟨P, q, f, L, rfl, rfl, hq, HP, HBr, HR⟩ := hrel
            by_cases hq0 : 0 < q
            · obtain ⟨h1, h2, h3⟩ := HR.out
              obtain ⟨f', rfl⟩ : ∃ f', f = f' + 1 := by
                cases f with
                | zero => simp at h1; omega
                | succ f' => exact ⟨f', rfl⟩
              obtain ⟨r, rfl⟩ : ∃ r, P = r + 1 := ⟨P - 1, by have := HP.out; omega⟩
              have hr : r < 20 := by have := HP.out; omega
              have HR2 : Hid (q / 10 < 10 ^ f' ∧ f' + ((48 + ((q % 10 : Nat) : Int)) :: L).length ≤ 19 ∧ magL M = dgF f' (q / 10) ++ ((48 + ((q % 10 : Nat) : Int)) :: L)) := by
                refine ⟨by rw [Nat.pow_succ] at h1; omega, by simp; omega, ?_⟩
                rw [h3, dgF_succ f' q hq0, List.append_assoc]
                rfl
              have HB2 : Hid (Buf w (wr.setCell ⟨w.heap.size, r, none⟩ (.int .u8 (48 + ((q % 10 : Nat) : Int)))) ((48 + ((q % 10 : Nat) : Int)) :: L)) := HBr.out.push r _ (by have := HP.out; omega)
              obtain ⟨u, hu⟩ := HBr.out.cell r hr
              have hf := HBr.out.frozen r
              clear h1 h2 h3
              go_wp2
              go_roundw
              case rel => exact ⟨r, q / 10, f', _, by go_num, by go_num, by omega, by have := HP.out; show r + _ = 20; simp; omega, HB2, HR2⟩
              case measure => simp [intOf]; omega
            · go_wp2
              go_meet
              case rel =>
                have e : magL M = L := by
                  obtain ⟨_, _, h3⟩ := HR.out
                  have : q = 0 := by omega
                  rw [this, dgF_zero, List.nil_append] at h3
                  exact h3
                exact ⟨P, rfl, by rw [e]; exact HP, by rw [e]; exact HBr⟩
      case rest =>
        obtain ⟨P1, rfl, HP1, HB1⟩ := hcut
        go_upto_if 37 with fail
        go_cut [4] (fun p wx => ∃ P : Nat, p = .int .i64 P ∧ Hid (P + (fmtL v).length = 20) ∧ Hid (Buf w wx (fmtL v)))
        case first =>
          as_aux_lemma =>
            cases ng
            · have e : fmtL v = magL M := by
                unfold fmtL
                rw [if_neg (of_decide_eq_false Hng.out), List.nil_append, HM.out]
              have E : Hid (fmtL v = magL M) := e
              clear e
              go_wp2
              go_meet
              case rel => exact ⟨P1, rfl, by rw [E.out]; exact HP1, by rw [E.out]; exact HB1⟩
            · have e : fmtL v = 45 :: magL M := by
                unfold fmtL
                rw [if_pos (of_decide_eq_true Hng.out), HM.out]
                rfl
              have E : Hid (fmtL v = 45 :: magL M) := e
              have hl := magL_len19 M
              obtain ⟨r, rfl⟩ : ∃ r, P1 = r + 1 := ⟨P1 - 1, by have := HP1.out; omega⟩
              have hr : r < 20 := by have := HP1.out; omega
              obtain ⟨u, hu⟩ := HB1.out.cell r hr
              have hf := HB1.out.frozen r
              have HB2 : Hid (Buf w (wc.setCell ⟨w.heap.size, r, none⟩ (.int .u8 45)) (45 :: magL M)) := HB1.out.push r 45 (by have := HP1.out; omega)
              clear e
              go_wp2
              go_meet
              case rel => exact ⟨r, by go_num, by rw [E.out]; have := HP1.out; show r + _ = 20; simp; omega, by rw [E.out]; exact HB2⟩
        case rest =>
          obtain ⟨P2, rfl, HP2, HB2⟩ := hcut
          obtain ⟨F, hF⟩ : ∃ F, F = fmtL v := ⟨_, rfl⟩
          rw [← hF] at HP2 HB2
          have HF : Hid (F = fmtL v) := hF
          clear hF HB1 HP1 HB0 HP0 HL0 HB
          obtain ⟨N, hN⟩ : ∃ N, N = F.length := ⟨_, rfl⟩
          have HN : Hid (N = F.length) := hN
          have hPN : P2 + N ≤ 20 := by have := HP2.out; omega
          have hPN2 : 20 ≤ P2 + N := by have := HP2.out; omega
          clear hN
          go_wp2_with (at_make; refine wpList_make_full _ rfl _ _ 22 rfl 0 5 i0 (.int .u8 0) 1 Try.underlying22 hi hz0 hz1 _ _ _ _ N rfl rfl (by omega) (by omega) (by rw [hz2]; omega) (by unfold maxLen; omega) (Nat.zero_le _) ?_; intro w1 hown1 hgrow1)
          obtain ⟨G, hG⟩ : ∃ G, G = wc.heap.size := ⟨_, rfl⟩
          rw [← hG] at hown1 ⊢
          have ho1 : Hid (Own w1 (.slice (some ⟨G, 0, none⟩) N N) (List.replicate N 0)) := own_made hown1
          have hb1 : Hid (Below wc.heap.size wc w1) := (Below.refl _ _).grown hgrow1 (Nat.le_refl _) (by simp)
          have hGlt : w.heap.size < G := by rw [hG]; exact HB2.out.lt
          have HG : Hid (G = wc.heap.size) := hG
          have Hb1 : Hid (Below w.heap.size w w1) := HB2.out.bel.trans (hb1.out.mono HB2.out.bel.size)
          have HBf : Hid (Buf w w1 F) := HB2.out.step hb1.out
          clear hown1 hgrow1 hG HB2
          go_loopw [8] (fun i wr => ∃ k : Nat, k ≤ N ∧ i = .int .i64 k ∧ Hid (Own wr (.slice (some ⟨G, 0, none⟩) N N) (F.take k ++ List.replicate (F.length - k) 0)) ∧ Hid (Buf w wr F) ∧ G < wr.heap.size) (fun i _ => N - (intOf i).toNat)
          case atStart => exact ⟨0, Nat.zero_le _, rfl, by show Own _ _ _; simp only [List.take_zero, List.nil_append, Nat.sub_zero, ← HN.out]; exact ho1.out, HBf, (World.ownsRow.lt ho1.out G rfl).2⟩
          case round =>
            obtain ⟨k, hk, rfl, ho, HBk, hGk⟩ := hrel
            by_cases hlt : k < N
            · have hkx : k < F.length := by rw [← HN.out]; exact hlt
              have hln : N = (F.take k ++ List.replicate (F.length - k) 0).length := by have := HN.out; simp; omega
              have hc := HBk.out.at k (P2 + k) hkx (by have := HP2.out; have := HN.out; omega)
              obtain ⟨u, hu⟩ := own_cell ho.out hln k hlt
              have hfz := own_frozen ho.out hln k
              have HO : Hid (Own (wr.setCell ⟨G, k, none⟩ (.int .u8 F[k])) (.slice (some ⟨G, 0, none⟩) N N) (F.take (k + 1) ++ List.replicate (F.length - (k + 1)) 0)) := by
                show Own _ _ _
                rw [← set_take F k hkx]
                exact own_store ho.out hln k F[k]
              have HBk2 : Hid (Buf w (wr.setCell ⟨G, k, none⟩ (.int .u8 F[k])) F) := by
                obtain ⟨cur, e1, e2, e3⟩ := HBk.out.row
                refine ⟨HBk.out.len, HBk.out.bel.setCell (by show w.heap.size ≤ G; omega) _, cur, ?_, e2, e3⟩
                rw [Below.heap_setCell _ _ _ _ (by show w.heap.size ≠ G; omega)]
                exact e1
              clear hln ho HBk
              go_wp2
              go_roundw
              case rel => exact ⟨k + 1, by omega, by go_num, HO, HBk2, by simpa [World.setCell] using hGk⟩
              case measure => simp [intOf]; omega
            · go_wp2
              go_ret
              have ek : k = N := by omega
              have := ho.out
              rw [ek, HN.out, Nat.sub_self, List.take_length, List.replicate_zero, List.append_nil] at this
              refine ⟨_, rfl, Own.cast (by rw [HN.out]; exact this) HF.out.symm, step_new HBk.out.bel (by omega)⟩

end Go.Proofs.Qxb6601381a
