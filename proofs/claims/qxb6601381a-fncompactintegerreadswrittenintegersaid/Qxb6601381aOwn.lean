/- Byte slices that the call owns: what they hold ('Own'), how they grow ('Step'), and one law for every append onto them. No dump is imported. -/
import Derived.WalkKit
import Derived.Deep.AppendSrc
import Derived.Lib.AppendStr
namespace Go.Proofs.Qxb6601381a
open Go.RowKit

/-- The cells of a list of bytes. -/
def cellsOf8 (xs : List Int) : List Value := xs.map (Value.int .u8)

theorem cellsOf8_length (xs : List Int) : (cellsOf8 xs).length = xs.length := by simp [cellsOf8]
theorem cellsOf8_append (xs ys : List Int) : cellsOf8 (xs ++ ys) = cellsOf8 xs ++ cellsOf8 ys := by simp [cellsOf8]
theorem cellsOf8_one (xs : List Int) : ∀ u ∈ cellsOf8 xs, u.oneCell' = true := by
  intro u hu
  obtain ⟨_, _, rfl⟩ := List.mem_map.1 hu
  rfl

/-- The slice value v (elements of type 5, one cell each) owns the bytes xs. -/
def Own (w : World) (v : Value) (xs : List Int) : Prop := w.ownsRow 0 5 1 v xs.length (cellsOf8 xs)

/-- w' is w but for v's own row and new blocks; v' lies in v's row, or in a new block. -/
structure Step (w : World) (v : Value) (w' : World) (v' : Value) : Prop where
  grown : w.grownBy w' v.ownBlock
  lies : v'.ownBlock = v.ownBlock ∨ ∃ k, v'.ownBlock = some k ∧ w.heap.size ≤ k

theorem Own.nil (w : World) : Own w (.slice none 0 0) [] := World.ownsRow_nil w 0 5 1

theorem Own.alloc {w : World} {v : Value} {xs : List Int} (h : Own w v xs) (o : Obj) : Own (w.alloc o) v xs := World.ownsRow.alloc h o

theorem Step.refl (w : World) (v : Value) : Step w v w v := ⟨⟨rfl, rfl, rfl, Nat.le_refl _, fun _ _ _ => rfl⟩, .inl rfl⟩

theorem Step.allocd (w : World) (v : Value) (o : Obj) : Step w v (w.alloc o) v := ⟨World.grownBy_alloc w o _, .inl rfl⟩

theorem Step.trans {w w1 w2 : World} {v v1 v2 : Value} (h : Step w v w1 v1) (k : Step w1 v1 w2 v2) : Step w v w2 v2 := by
  refine ⟨⟨k.grown.os.trans h.grown.os, k.grown.tape.trans h.grown.tape, k.grown.output.trans h.grown.output, Nat.le_trans h.grown.size k.grown.size, ?_⟩, ?_⟩
  · intro j hj hne
    have h1 := h.grown.block j hj hne
    rw [← h1]
    refine k.grown.block j (Nat.lt_of_lt_of_le hj h.grown.size) ?_
    rcases h.lies with e | ⟨m, e, hm⟩
    · rw [e]; exact hne
    · rw [e]; intro hh; cases hh; omega
  · rcases k.lies with e | ⟨m, e, hm⟩
    · rw [e]; exact h.lies
    · exact .inr ⟨m, e, Nat.le_trans h.grown.size hm⟩

theorem Step.alloc {w w1 : World} {v v1 : Value} (h : Step w v w1 v1) (o : Obj) : Step w v (w1.alloc o) v1 := h.trans (Step.allocd w1 v1 o)

/-- What another row holds stays. -/
theorem Step.kept {w w' : World} {v v' u : Value} {ys : List Int} (h : Step w v w' v') (hu : Own w u ys) (hne : u.ownBlock = none ∨ u.ownBlock ≠ v.ownBlock) : Own w' u ys :=
  World.ownsRow.kept hu h.grown hne

/-- Nothing below B has turned, if v's row lies from B on. -/
theorem Step.below {w w' a : World} {v v' : Value} {B : Nat} (h : Step w v w' v') (hb : Below B a w) (hB : B ≤ w.heap.size) (hv : ∀ k, v.ownBlock = some k → B ≤ k) : Below B a w' :=
  hb.grown h.grown hB hv

theorem Step.since {w w' : World} {v v' : Value} {B : Nat} (h : Step w v w' v') (hB : B ≤ w.heap.size) (hv : ∀ k, v.ownBlock = some k → B ≤ k) : ∀ k, v'.ownBlock = some k → B ≤ k := by
  intro k hk
  rcases h.lies with e | ⟨m, e, hm⟩
  · exact hv k (e ▸ hk)
  · rw [e] at hk; cases hk; omega

/-- The shapes of a value that owns bytes. -/
theorem Own.form {w : World} {v : Value} {xs : List Int} (h : Own w v xs) :
    (v = .slice none 0 0 ∧ xs = []) ∨ ∃ g cap, v = .slice (some ⟨g, 0, none⟩) xs.length cap ∧ xs.length ≤ cap ∧ cap ≤ maxLen ∧ g < w.heap.size ∧
      ∀ j (hj : j < xs.length), w.cell? ⟨g, j, none⟩ = some (.int .u8 xs[j]) := by
  have h' := h
  rcases h.2 with ⟨e, hn⟩ | ⟨g, cap, cur, rfl, _, hg, hn, hc, hs, ht⟩
  · exact .inl ⟨e, List.eq_nil_of_length_eq_zero hn⟩
  · refine .inr ⟨g, cap, rfl, hn, hc, (Array.getElem?_eq_some_iff.1 hg).1, fun j hj => ?_⟩
    have := h'.cells (g := g) rfl j (.int .u8 xs[j]) (by simp [cellsOf8, hj])
    simpa [Addr.add_lit] using this

section
variable {P : Program} (w : World)

theorem srcBytes {tx e' : TypeId} (hk : P.underlying tx = some (.slice e')) (a : Addr) (c : Nat) (news : List Int) (hnews : ∀ j (hj : j < news.length), w.cell? (a.add j) = some (.int .u8 news[j])) :
    Src P 1 tx (.slice (some a) news.length c) news.length (cellsOf8 news) w := by
  refine Src.ofSlice w hk a news.length c (cellsOf8 news) (by simp [cellsOf8]) ?_ (cellsOf8_one news)
  intro j u hu
  have hj : j < news.length := by have := (List.getElem?_eq_some_iff.1 hu).1; simpa [cellsOf8] using this
  rw [hnews j hj]
  simpa [cellsOf8, List.getElem?_map, hj] using hu

/-- The bytes of a string, as numbers. -/
def bytesOf (s : ByteArray) : List Int := s.data.toList.map fun b => (b.toNat : Int)

theorem bytesOf_length (s : ByteArray) : (bytesOf s).length = s.size := by
  unfold bytesOf
  rw [List.length_map, Array.length_toList]
  rfl

theorem srcString {tx : TypeId} (hk : P.underlying tx = some .string) (s : ByteArray) : Src P 1 tx (.string s) (bytesOf s).length (cellsOf8 (bytesOf s)) w := by
  have h := Src.ofString w hk s
  have e : byteCells s = cellsOf8 (bytesOf s) := by simp [byteCells, cellsOf8, bytesOf, List.map_map, Function.comp_def]
  rw [e] at h
  rw [bytesOf_length]
  exact h

theorem srcNil {tx e' : TypeId} (hk : P.underlying tx = some (.slice e')) (c : Nat) : Src P 1 tx (.slice none 0 c) ([] : List Int).length (cellsOf8 []) w := Src.ofNil w hk c

/-- THE LAW: append onto an owned byte slice, whatever the source. -/
theorem run_append_step (t tx ty : TypeId) (i : TypeInfo) (ht : P.underlying t = some (.slice 5)) (hi : P.info? 5 = some i) (hz : i.zero = some (.int .u8 0)) (hsize : i.size = 1) (hby : i.bytes = 1)
    (v : Value) (xs : List Int) (hown : Own w v xs) (x : Value) (news : List Int) (hs : Src P 1 tx x news.length (cellsOf8 news) w) (hb : xs.length + news.length ≤ 1099511627776) :
    ∃ v' w', (Builtin.append_ #[t, tx] ty #[v, x]).run P w = .ok v' w' ∧ Own w' v' (xs ++ news) ∧ Step w v w' v' := by
  have hlen : (cellsOf8 (xs ++ news)).length = (xs ++ news).length * 1 := by simp [cellsOf8]
  have hxl : (cellsOf8 xs).length = xs.length := cellsOf8_length xs
  have hs' : Src P i.size tx x news.length (cellsOf8 news) w := by rw [hsize]; exact hs
  have growOk : ∀ (ba : Option Addr) (cap : Nat), cap < xs.length + news.length →
      (Builtin.firstCells i.size xs.length (.slice ba xs.length cap)).run P w.drew = .ok (cellsOf8 xs).toArray w.drew →
      ∃ v' w', (Builtin.append_ #[t, tx] ty #[.slice ba xs.length cap, x]).run P w = .ok v' w' ∧ Own w' v' (xs ++ news) ∧ ∀ u : Value, u = .slice ba xs.length cap → Step w u w' v' := by
    intro ba cap hcap hold
    have hge := grownCap_ge w (xs.length + news.length) cap 5
    have hcm : grownCap w (xs.length + news.length) cap 5 ≤ maxLen := grownCap_le_maxLen w (xs.length + news.length) cap 5 (by simp only [maxLen]; omega)
    have hr := run_append_grow_src (P := P) w t tx ty 5 i (.int .u8 0) ht hi hz ba xs.length cap (cellsOf8 xs) hold x news.length (cellsOf8 news) hs' hcap (by omega) (growslice_fits (by omega) (by rw [hby]; omega))
    refine ⟨_, _, hr, ⟨hlen, .inr ⟨w.heap.size, _, _, ?_, Nat.zero_le _, heap_alloc_new w.drew _, ?_, hcm, ?_, ?_⟩⟩, fun u hu => ⟨⟨rfl, rfl, rfl, by simp, fun k hk _ => World.grownBy.block (World.grownBy_alloc w.drew _ none) k hk (by simp)⟩, .inr ⟨w.heap.size, rfl, Nat.le_refl _⟩⟩⟩
    · rw [List.length_append]
    · rw [List.length_append]; exact hge
    · have hz1 : (Value.int IntKind.u8 0).cells.size = 1 := rfl
      simp only [Array.size_append, List.size_toArray, size_zeroCells, hz1, List.length_append, cellsOf8_length]
      omega
    · rw [← hlen, cellsOf8_append, Array.toList_append]
      exact List.take_left
  rcases hown.2 with ⟨rfl, h0⟩ | ⟨g, cap, cur, rfl, _, hg, hnc, hcm, hcs, htake⟩
  · have hx0 : xs = [] := List.eq_nil_of_length_eq_zero h0
    subst hx0
    by_cases hm : news.length = 0
    · have hn0 : news = [] := List.eq_nil_of_length_eq_zero hm
      subst hn0
      refine ⟨.slice none 0 0, w, ?_, Own.nil w, Step.refl _ _⟩
      have hl1 : ∀ w' : World, (Builtin.lenOf x).run P w' = .ok 0 w' := hs.len
      have hc1 : (Builtin.firstCells 1 0 x).run P w = .ok #[] w := hs.cells
      rcases hs.kind with ⟨e', hk⟩ | hk <;> simp [Builtin.append_, run_underlying ht, run_underlying hk, sizeOf, typeInfo, hi, hsize, hl1, hc1]
    · obtain ⟨v', w', h1, h2, h3⟩ := growOk none 0 (by simp; omega) (run_firstCells_none w.drew i.size 0 0 0)
      exact ⟨v', w', h1, h2, h3 _ rfl⟩
  · by_cases hroom : xs.length + news.length ≤ cap
    · have hcs' : cur.size = cap := by simpa using hcs
      have hc : ∀ j, j < (cellsOf8 news).length → (w.cell? ⟨g, 0 + xs.length * i.size + j, none⟩).isSome = true := by
        intro j hj
        rw [cellsOf8_length] at hj
        rw [cell_of_row w g _ cur 5 (0, 0) hg, hsize]
        simp
        omega
      have hf : ∀ j, j < (cellsOf8 news).length → w.frozen? ⟨g, 0 + xs.length * i.size + j, none⟩ = false := by
        intro j hj
        simp [World.frozen?, hg]
      have hr := run_append_room_src (P := P) w t tx ty 5 i ht hi g 0 xs.length cap x news.length (cellsOf8 news) hs' hroom hc hf
      have hst := run_storeCells_at P g xs.length 5 (cellsOf8 news) 0 cur w hg (by rw [cellsOf8_length]; simpa [hcs'] using hroom) (cellsOf8_one news)
      have hst2 := run_storeCells_cells (P := P) g xs.length (cellsOf8 news) 0 w (by intro j hj; simpa [hsize] using hc j hj) (by intro j hj; simpa [hsize] using hf j hj) (cellsOf8_one news)
      have hww : w.setCells g (0 + xs.length * i.size) (cellsOf8 news) = w.setRow g (cur.toList.take xs.length ++ cellsOf8 news ++ cur.toList.drop (xs.length + (cellsOf8 news).length)).toArray := by
        rw [hst] at hst2
        simp only [hsize, Nat.mul_one, Nat.zero_add, Nat.add_zero] at hst2 ⊢
        simpa using hst2.symm
      rw [hww] at hr
      refine ⟨_, _, hr, ⟨hlen, .inr ⟨g, cap, _, ?_, Nat.zero_le _, setRow_heap w g cur _ 5 _ hg, ?_, hcm, ?_, ?_⟩⟩, ⟨⟨rfl, rfl, rfl, by simp, fun k _ hk => setRow_other w g k _ (fun e => hk (by simp [Value.ownBlock, e]))⟩, .inl rfl⟩⟩
      · rw [List.length_append]
      · rw [List.length_append]; exact hroom
      · simp only [List.size_toArray, List.length_append, List.length_take, List.length_drop, Array.length_toList, cellsOf8_length]
        omega
      · have ht' : cur.toList.take xs.length = cellsOf8 xs := by simpa using htake
        rw [ht', ← hlen, cellsOf8_append]
        exact List.take_left
    · have hold : (Builtin.firstCells i.size xs.length (.slice (some ⟨g, 0, none⟩) xs.length cap)).run P w.drew = .ok (cellsOf8 xs).toArray w.drew := by
        refine run_firstCells_some w.drew i.size xs.length ⟨g, 0, none⟩ xs.length cap (cellsOf8 xs) (by rw [hsize, cellsOf8_length, Nat.mul_one]) ?_
        intro j u hu
        simpa using World.ownsRow.cells hown (g := g) rfl j u hu
      obtain ⟨v', w', h1, h2, h3⟩ := growOk (some ⟨g, 0, none⟩) cap (by omega) hold
      exact ⟨v', w', h1, h2, h3 _ rfl⟩

/-- The same at the operation, for the walk. -/
theorem wpList_append_step {ops : Array Oper} {rest : List Oper} {o : Oper} {a : Act} {Q : Exit → Act → World → Prop} (hgd : o.guard = none) (s x : Operand) (t tx : TypeId)
    (ho : o.op = .call { callee := .builtin .append, args := #[s, x], argTypes := #[t, tx] }) (i : TypeInfo)
    (ht : P.underlying t = some (.slice 5)) (hi : P.info? 5 = some i) (hz : i.zero = some (.int .u8 0)) (hsize : i.size = 1) (hby : i.bytes = 1)
    (v : Value) (xs : List Int) (hv : a.eval s = v) (hown : Own w v xs) (xv : Value) (hxv : a.eval x = xv) (news : List Int) (hs : Src P 1 tx xv news.length (cellsOf8 news) w) (hb : xs.length + news.length ≤ 1099511627776)
    (h : ∀ v' w', Own w' v' (xs ++ news) → Step w v w' v' → wpList P ops Q rest (a.put o.dst v') w') : wpList P ops Q (o :: rest) a w := by
  refine wpList_plain hgd fun K hK => ?_
  obtain ⟨v', w', hr, h2, h3⟩ := run_append_step (P := P) w t tx o.type i ht hi hz hsize hby v xs hown xv news hs hb
  unfold Oper.wp execOp
  simp only [ho, resolve, invoke, builtin, Sem.run_bind, Sem.run_pure, Result.andThen_ok, List.map_toArray, List.map_cons, List.map_nil, hv, hxv, hr]
  exact hK _ _ (h v' w' h2 h3)

end
end Go.Proofs.Qxb6601381a
