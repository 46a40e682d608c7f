/- The walk of collationNames (7). -/
import Derived.Test.Qxb6601474aWorld
namespace Go.Proofs.Qxb6601474a
open Go.RowKit Go.Maps

theorem mid_start (w : World) : Mid w 0 [] ((((w.alloc (.cells (langL.map (fun s => Value.string (bs s))).toArray 9)).alloc (.cells (locL.map (fun s => Value.string (bs s))).toArray 9)).alloc (.map #[] 0)).alloc (.cells (csL.map (fun s => Value.string (bs s))).toArray 9)) :=
  ⟨((((Below.refl _ _).alloc (Nat.le_refl _) _).alloc (by simp) _).alloc (by simp; omega) _).alloc (by simp; omega) _, by simp,
    (((strs_new w langL).alloc _).alloc _).alloc _, by
      have := strs_new (w.alloc (.cells (langL.map (fun s => Value.string (bs s))).toArray 9)) locL
      simp only [World.size_alloc] at this
      exact (this.alloc _).alloc _, by
      have := strs_new (((w.alloc (.cells (langL.map (fun s => Value.string (bs s))).toArray 9)).alloc (.cells (locL.map (fun s => Value.string (bs s))).toArray 9)).alloc (.map #[] 0)) csL
      simp only [World.size_alloc] at this
      exact this, by
      have := World.ownsMap_made (H := Unit) ((w.alloc (.cells (langL.map (fun s => Value.string (bs s))).toArray 9)).alloc (.cells (locL.map (fun s => Value.string (bs s))).toArray 9)) Try.prog 9 (plainElem Try.prog 4)
      simp only [World.size_alloc] at this
      exact this.alloc _⟩

theorem app_list (a b : ByteArray) : (a ++ b).data.toList = a.data.toList ++ b.data.toList := by
  rw [ByteArray.data_append, Array.toList_append]

theorem keyA {cb xb : ByteArray} {cs x : Str} (h1 : cb.data.toList = cs) (h2 : xb.data.toList = x) (z1 : cb.size ≤ 40) (z2 : xb.size ≤ 40) :
    keyOf Try.prog 9 (.string (cb ++ ⟨#[95]⟩ ++ xb)) = some (.string (cs ++ us ++ x)) := by
  refine key_str _ _ ?_ ?_
  · rw [app_list, app_list, h1, h2]; rfl
  · have e : ByteArray.size ⟨#[95]⟩ = 1 := rfl
    rw [ByteArray.size_append, ByteArray.size_append, e]; omega

theorem keyC {cb xb : ByteArray} {cs x : Str} (h1 : cb.data.toList = cs) (h2 : xb.data.toList = x) (z1 : cb.size ≤ 40) (z2 : xb.size ≤ 40) :
    keyOf Try.prog 9 (.string (cb ++ ⟨#[95]⟩ ++ xb ++ ⟨#[95, 99, 105]⟩)) = some (.string (cs ++ us ++ x ++ ciS)) := by
  refine key_str _ _ ?_ ?_
  · rw [app_list, app_list, app_list, h1, h2]; rfl
  · have e : ByteArray.size ⟨#[95]⟩ = 1 := rfl
    have e3 : ByteArray.size ⟨#[95, 99, 105]⟩ = 3 := rfl
    rw [ByteArray.size_append, ByteArray.size_append, ByteArray.size_append, e, e3]; omega

theorem keyM {xb : ByteArray} {x : Str} (h2 : xb.data.toList = x) (z2 : xb.size ≤ 40) :
    keyOf Try.prog 9 (.string (⟨#[117, 116, 102, 56, 109, 98, 52, 95]⟩ ++ xb)) = some (.string (mb4 ++ us ++ x)) := by
  refine key_str _ _ ?_ ?_
  · rw [app_list, h2]; rfl
  · have e : ByteArray.size ⟨#[117, 116, 102, 56, 109, 98, 52, 95]⟩ = 8 := rfl
    rw [ByteArray.size_append, e]; omega

theorem keyI {xb : ByteArray} {x : Str} (h2 : xb.data.toList = x) (z2 : xb.size ≤ 40) :
    keyOf Try.prog 9 (.string (⟨#[117, 116, 102, 56, 109, 98, 52, 95]⟩ ++ xb ++ ⟨#[95, 48, 57, 48, 48, 95, 97, 105, 95, 99, 105]⟩)) = some (.string (mb4 ++ us ++ x ++ aiS)) := by
  refine key_str _ _ ?_ ?_
  · rw [app_list, app_list, h2]; rfl
  · have e : ByteArray.size ⟨#[117, 116, 102, 56, 109, 98, 52, 95]⟩ = 8 := rfl
    have e3 : ByteArray.size ⟨#[95, 48, 57, 48, 48, 95, 97, 105, 95, 99, 105]⟩ = 11 := rfl
    rw [ByteArray.size_append, ByteArray.size_append, e, e3]; omega

theorem keyS {xb : ByteArray} {x : Str} (h2 : xb.data.toList = x) (z2 : xb.size ≤ 40) :
    keyOf Try.prog 9 (.string (⟨#[117, 116, 102, 56, 109, 98, 52, 95]⟩ ++ xb ++ ⟨#[95, 48, 57, 48, 48, 95, 97, 115, 95, 99, 115]⟩)) = some (.string (mb4 ++ us ++ x ++ asS)) := by
  refine key_str _ _ ?_ ?_
  · rw [app_list, app_list, h2]; rfl
  · have e : ByteArray.size ⟨#[117, 116, 102, 56, 109, 98, 52, 95]⟩ = 8 := rfl
    have e3 : ByteArray.size ⟨#[95, 48, 57, 48, 48, 95, 97, 115, 95, 99, 115]⟩ = 11 := rfl
    rw [ByteArray.size_append, ByteArray.size_append, e, e3]; omega

theorem setA_split (L : List Str) (cs : Str) : L ++ comL.map (fun x => cs ++ us ++ x) ++ langL.map (fun l => cs ++ us ++ l ++ ciS) = L ++ setA comL langL cs := by
  unfold setA
  rw [List.append_assoc]

theorem outer_snoc (k : Nat) (h : k < csL.length) : (csL.take (k + 1)).flatMap (setA comL langL) = (csL.take k).flatMap (setA comL langL) ++ setA comL langL csL[k] := by
  rw [take_snoc _ _ h, List.flatMap_append]
  simp

theorem all_split : (csL.take 3).flatMap (setA comL langL) ++ mb4L.map (fun x => mb4 ++ us ++ x) ++ locL.flatMap (fun l => [mb4 ++ us ++ l ++ aiS, mb4 ++ us ++ l ++ asS]) = allNames comL langL mb4L locL := by
  show setA comL langL mb4 ++ (setA comL langL mb3 ++ (setA comL langL u8s ++ [])) ++ _ ++ _ = _
  unfold allNames setB
  simp only [List.append_assoc, List.append_nil]

set_option maxHeartbeats 4000000 in
theorem names_any (w : World) : Calls Try.prog 7 #[] w (NPost w) := by
  have hmm := @run_makeMap Try.prog
  have HM : Hid (Mid w 0 [] _) := mid_start w
  go_enter Try.func7, Try.ntmps7
  go_wp2
  go_loopw [19] (fun i wr => ∃ k : Nat, k ≤ 3 ∧ i = .int .i64 k ∧ Hid (Mid w (26 * k) ((csL.take k).flatMap (setA comL langL)) wr)) (fun i _ => 3 - (intOf i).toNat)
  case atStart => exact ⟨0, Nat.zero_le _, rfl, HM⟩
  case round =>
    obtain ⟨k, hk, rfl, hm⟩ := hrel
    by_cases hlt : k < 3
    · have hkx : k < csL.length := hlt
      obtain ⟨cs, hcs⟩ : ∃ cs, csL[k] = cs := ⟨_, rfl⟩
      obtain ⟨cb, hcb⟩ : ∃ cb, bs cs = cb := ⟨_, rfl⟩
      have hcell : wr.cell? ⟨w.heap.size + 1 + 1 + 1, k, none⟩ = some (.string cb) := by rw [← hcb, ← hcs]; exact hm.out.css k hkx
      have hcz : cb.size ≤ 40 := by rw [← hcb, bs_size, ← hcs]; exact cs_size _ (List.getElem_mem _)
      have HCL : Hid (cb.data.toList = cs) := by show _ = _; rw [← hcb]; rfl
      have HM1 : Hid (Mid w (26 * k) ((csL.take k).flatMap (setA comL langL)) (wr.alloc _)) := hm.out.alloc (.cells (comL.map (fun s => Value.string (bs s))).toArray 9)
      have HS1 : Hid (Strs (wr.alloc _) wr.heap.size comL) := strs_new wr comL
      clear hcb
      obtain ⟨L, hL⟩ : ∃ L, (csL.take k).flatMap (setA comL langL) = L := ⟨_, rfl⟩
      rw [hL] at HM1
      have HL : Hid ((csL.take k).flatMap (setA comL langL) = L) := hL
      have HCS : Hid (csL[k] = cs) := hcs
      have hwo := hm.out.size
      clear hL hcs hm HM
      obtain ⟨wo, rfl⟩ : ∃ wo, wo = wr := ⟨_, rfl⟩
      go_wp2
      generalize decide ((k : Int) < 3) = kb
      go_loopw [25] (fun i wr => ∃ m : Nat, m ≤ 4 ∧ i = .int .i64 m ∧ Hid (Mid w (26 * k + m) (L ++ (comL.take m).map (fun x => cs ++ us ++ x)) wr) ∧ Hid (Strs wr wo.heap.size comL)) (fun i _ => 4 - (intOf i).toNat)
      case atStart => exact ⟨0, Nat.zero_le _, rfl, HM1.out.cast rfl (by simp), HS1⟩
      case round =>
        obtain ⟨m, hm4, rfl, hm, hs⟩ := hrel
        by_cases hlt2 : m < 4
        · have hmx : m < comL.length := hlt2
          obtain ⟨x, hx⟩ : ∃ x, comL[m] = x := ⟨_, rfl⟩
          obtain ⟨xb, hxb⟩ : ∃ xb, bs x = xb := ⟨_, rfl⟩
          have hcell2 : wr.cell? ⟨wo.heap.size, m, none⟩ = some (.string xb) := by rw [← hxb, ← hx]; exact hs.out m hmx
          have hxz : xb.size ≤ 40 := by rw [← hxb, bs_size, ← hx]; exact com_size _ (List.getElem_mem _)
          have HXL : Hid (xb.data.toList = x) := by show _ = _; rw [← hxb]; rfl
          clear hxb
          go_wp2_with (at_mapUpdate; refine wpList_mapUpdate_own _ rfl _ _ _ 23 rfl 9 4 law Try.underlying23 _ (w.heap.size + 1 + 1) (26 * k + m) _ rfl hm.out.own (by unfold maxLen; omega) _ _ _ rfl rfl (keyA HCL.out HXL.out hcz hxz) _ [] (plainElem_bool Try.underlying4 true) ?_; intro w1 hown1 hgrow1)
          have R1 : Hid (Mid w (26 * k + (m + 1)) (L ++ (comL.take (m + 1)).map (fun x => cs ++ us ++ x)) w1) := (hm.out.store hown1 hgrow1).cast (by omega) (by rw [take_snoc _ _ hmx, hx, List.map_append, List.append_assoc]; rfl)
          have R2 : Hid (Strs w1 wo.heap.size comL) := hs.out.kept hgrow1 (by simp; omega)
          clear hown1 hgrow1 hm hs hcell2 hx
          go_roundw
          case rel => exact ⟨m + 1, by omega, by go_num, R1, R2⟩
          case measure => simp [intOf]; omega
        · have HM2 : Hid (Mid w (26 * k + 4 + 0) (L ++ comL.map (fun x => cs ++ us ++ x) ++ (langL.take 0).map (fun l => cs ++ us ++ l ++ ciS)) wr) := by
            have e : m = 4 := by omega
            subst e
            exact hm.out.cast (by omega) (by simp [comL])
          clear hm hs HS1 HM1 hcell
          obtain ⟨wq, rfl⟩ : ∃ wq, wq = wr := ⟨_, rfl⟩
          go_wp2
          generalize decide ((m : Int) < 4) = mb
          go_loopw [37] (fun i wr => ∃ n : Nat, n ≤ 22 ∧ i = .int .i64 n ∧ Hid (Mid w (26 * k + 4 + n) (L ++ comL.map (fun x => cs ++ us ++ x) ++ (langL.take n).map (fun l => cs ++ us ++ l ++ ciS)) wr)) (fun i _ => 22 - (intOf i).toNat)
          case atStart => exact ⟨0, Nat.zero_le _, rfl, HM2⟩
          case round =>
            obtain ⟨n, hn, rfl, hm⟩ := hrel
            by_cases hlt3 : n < 22
            · have hnx : n < langL.length := hlt3
              obtain ⟨x, hx⟩ : ∃ x, langL[n] = x := ⟨_, rfl⟩
              obtain ⟨xb, hxb⟩ : ∃ xb, bs x = xb := ⟨_, rfl⟩
              have hcell2 : wr.cell? ⟨w.heap.size, n, none⟩ = some (.string xb) := by rw [← hxb, ← hx]; exact hm.out.langs n hnx
              have hxz : xb.size ≤ 40 := by rw [← hxb, bs_size, ← hx]; exact lang_size _ (List.getElem_mem _)
              have HXL : Hid (xb.data.toList = x) := by show _ = _; rw [← hxb]; rfl
              clear hxb
              go_wp2_with (at_mapUpdate; refine wpList_mapUpdate_own _ rfl _ _ _ 23 rfl 9 4 law Try.underlying23 _ (w.heap.size + 1 + 1) (26 * k + 4 + n) _ rfl hm.out.own (by unfold maxLen; omega) _ _ _ rfl rfl (keyC HCL.out HXL.out hcz hxz) _ [] (plainElem_bool Try.underlying4 true) ?_; intro w1 hown1 hgrow1)
              have R1 : Hid (Mid w (26 * k + 4 + (n + 1)) (L ++ comL.map (fun x => cs ++ us ++ x) ++ (langL.take (n + 1)).map (fun l => cs ++ us ++ l ++ ciS)) w1) := (hm.out.store hown1 hgrow1).cast (by omega) (by rw [take_snoc _ _ hnx, hx, List.map_append, List.append_assoc]; rfl)
              clear hown1 hgrow1 hm hcell2 hx
              go_roundw
              case rel => exact ⟨n + 1, by omega, by go_num, R1⟩
              case measure => simp [intOf]; omega
            · have R1 : Hid (Mid w (26 * (k + 1)) ((csL.take (k + 1)).flatMap (setA comL langL)) wr) := by
                have e : n = 22 := by omega
                subst e
                refine hm.out.cast (by omega) ?_
                rw [outer_snoc k hkx, HL.out, HCS.out, ← setA_split]
                rfl
              clear hm
              go_wp2
              go_roundw
              case rel => exact ⟨k + 1, by omega, by go_num, R1⟩
              case measure => simp [intOf]; omega
    · obtain ⟨L, hL⟩ : ∃ L, (csL.take 3).flatMap (setA comL langL) = L := ⟨_, rfl⟩
      have HL : Hid ((csL.take 3).flatMap (setA comL langL) = L) := hL
      have HM1 : Hid (Mid w (78 + 0) (L ++ (mb4L.take 0).map (fun x => mb4 ++ us ++ x)) (wr.alloc (.cells (mb4L.map (fun s => Value.string (bs s))).toArray 9))) := by
        have e : k = 3 := by omega
        subst e
        exact (hm.out.alloc _).cast rfl (by rw [hL]; simp)
      have HS1 : Hid (Strs (wr.alloc (.cells (mb4L.map (fun s => Value.string (bs s))).toArray 9)) wr.heap.size mb4L) := strs_new wr mb4L
      have hwo := hm.out.size
      clear hL hm HM
      obtain ⟨wo, rfl⟩ : ∃ wo, wo = wr := ⟨_, rfl⟩
      go_wp2
      go_loopw [51] (fun i wr => ∃ m : Nat, m ≤ 7 ∧ i = .int .i64 m ∧ Hid (Mid w (78 + m) (L ++ (mb4L.take m).map (fun x => mb4 ++ us ++ x)) wr) ∧ Hid (Strs wr wo.heap.size mb4L)) (fun i _ => 7 - (intOf i).toNat)
      case atStart => exact ⟨0, Nat.zero_le _, rfl, HM1, HS1⟩
      case round =>
        obtain ⟨m, hm7, rfl, hm, hs⟩ := hrel
        by_cases hlt2 : m < 7
        · have hmx : m < mb4L.length := hlt2
          obtain ⟨x, hx⟩ : ∃ x, mb4L[m] = x := ⟨_, rfl⟩
          obtain ⟨xb, hxb⟩ : ∃ xb, bs x = xb := ⟨_, rfl⟩
          have hcell2 : wr.cell? ⟨wo.heap.size, m, none⟩ = some (.string xb) := by rw [← hxb, ← hx]; exact hs.out m hmx
          have hxz : xb.size ≤ 40 := by rw [← hxb, bs_size, ← hx]; exact mb4_size _ (List.getElem_mem _)
          have HXL : Hid (xb.data.toList = x) := by show _ = _; rw [← hxb]; rfl
          clear hxb
          go_wp2_with (at_mapUpdate; refine wpList_mapUpdate_own _ rfl _ _ _ 23 rfl 9 4 law Try.underlying23 _ (w.heap.size + 1 + 1) (78 + m) _ rfl hm.out.own (by unfold maxLen; omega) _ _ _ rfl rfl (keyM HXL.out hxz) _ [] (plainElem_bool Try.underlying4 true) ?_; intro w1 hown1 hgrow1)
          have R1 : Hid (Mid w (78 + (m + 1)) (L ++ (mb4L.take (m + 1)).map (fun x => mb4 ++ us ++ x)) w1) := (hm.out.store hown1 hgrow1).cast (by omega) (by rw [take_snoc _ _ hmx, hx, List.map_append, List.append_assoc]; rfl)
          have R2 : Hid (Strs w1 wo.heap.size mb4L) := hs.out.kept hgrow1 (by simp; omega)
          clear hown1 hgrow1 hm hs hcell2 hx
          go_roundw
          case rel => exact ⟨m + 1, by omega, by go_num, R1, R2⟩
          case measure => simp [intOf]; omega
        · have HM2 : Hid (Mid w (85 + 2 * 0) (L ++ mb4L.map (fun x => mb4 ++ us ++ x) ++ (locL.take 0).flatMap (fun l => [mb4 ++ us ++ l ++ aiS, mb4 ++ us ++ l ++ asS])) wr) := by
            have e : m = 7 := by omega
            subst e
            exact hm.out.cast (by omega) (by simp [mb4L])
          clear hm hs HS1 HM1
          obtain ⟨wq, rfl⟩ : ∃ wq, wq = wr := ⟨_, rfl⟩
          go_wp2
          go_loopw [61] (fun i wr => ∃ n : Nat, n ≤ 28 ∧ i = .int .i64 n ∧ Hid (Mid w (85 + 2 * n) (L ++ mb4L.map (fun x => mb4 ++ us ++ x) ++ (locL.take n).flatMap (fun l => [mb4 ++ us ++ l ++ aiS, mb4 ++ us ++ l ++ asS])) wr)) (fun i _ => 28 - (intOf i).toNat)
          case atStart => exact ⟨0, Nat.zero_le _, rfl, HM2⟩
          case round =>
            obtain ⟨n, hn, rfl, hm⟩ := hrel
            by_cases hlt3 : n < 28
            · have hnx : n < locL.length := hlt3
              obtain ⟨x, hx⟩ : ∃ x, locL[n] = x := ⟨_, rfl⟩
              obtain ⟨xb, hxb⟩ : ∃ xb, bs x = xb := ⟨_, rfl⟩
              have hcell2 : wr.cell? ⟨w.heap.size + 1, n, none⟩ = some (.string xb) := by rw [← hxb, ← hx]; exact hm.out.locs n hnx
              have hxz : xb.size ≤ 40 := by rw [← hxb, bs_size, ← hx]; exact loc_size _ (List.getElem_mem _)
              have HXL : Hid (xb.data.toList = x) := by show _ = _; rw [← hxb]; rfl
              clear hxb
              go_wp2_with (first
                | (at_mapUpdate; refine wpList_mapUpdate_own _ rfl _ _ _ 23 rfl 9 4 law Try.underlying23 _ (w.heap.size + 1 + 1) (85 + 2 * n) _ rfl hm.out.own (by unfold maxLen; omega) _ _ _ rfl rfl (keyI HXL.out hxz) _ [] (plainElem_bool Try.underlying4 true) ?_; intro w1 hown1 hgrow1)
                | (at_mapUpdate; refine wpList_mapUpdate_own _ rfl _ _ _ 23 rfl 9 4 law Try.underlying23 _ (w.heap.size + 1 + 1) (85 + 2 * n + 1) _ rfl (hm.out.store hown1 hgrow1).own (by unfold maxLen; omega) _ _ _ rfl rfl (keyS HXL.out hxz) _ [] (plainElem_bool Try.underlying4 true) ?_; intro w2 hown2 hgrow2))
              have R1 : Hid (Mid w (85 + 2 * (n + 1)) (L ++ mb4L.map (fun x => mb4 ++ us ++ x) ++ (locL.take (n + 1)).flatMap (fun l => [mb4 ++ us ++ l ++ aiS, mb4 ++ us ++ l ++ asS])) w2) := ((hm.out.store hown1 hgrow1).store hown2 hgrow2).cast (by omega) (by rw [take_snoc _ _ hnx, hx, List.flatMap_append]; simp)
              clear hown1 hgrow1 hown2 hgrow2 hm hcell2 hx
              go_roundw
              case rel => exact ⟨n + 1, by omega, by go_num, R1⟩
              case measure => simp [intOf]; omega
            · have R1 : Hid (Mid w (85 + 2 * n) (allNames comL langL mb4L locL) wr) := by
                have e : n = 28 := by omega
                subst e
                refine hm.out.cast rfl ?_
                rw [← all_split, HL.out]
                rfl
              clear hm
              go_wp2
              go_ret
              exact ⟨rfl, _, R1.out⟩

end Go.Proofs.Qxb6601474a
