/- What the world holds while collationNames lays its names. -/
import Derived.Test.Qxb6601474aParser
import Derived.Maps.Own
import Derived.Maps.OwnSet
import Derived.Below
import Derived.Laws.AppendOwn
namespace Go.Proofs.Qxb6601474a
open Go.RowKit Go.Maps Go.WideMaps

def bs (l : Str) : ByteArray := ⟨⟨l⟩⟩

def csL : List Str := [mb4, mb3, u8s]

/-- Block blk holds the strings S. -/
def Strs (wr : World) (blk : Nat) (S : List Str) : Prop := ∀ j (h : j < S.length), wr.cell? ⟨blk, j, none⟩ = some (.string (bs S[j]))

theorem law : Keyed Try.prog 9 := string_keyed Try.underlying9
theorem zeroE (w : World) : (zeroValue 4).run Try.prog w = .ok (.bool false) w := by kernel_rfl

/-- The datum of the map when the names L have been laid. -/
def Dat (L : List Str) : DataW Unit := setOf (.lit (.bool true)) (L.map Lit.string)

theorem Strs.kept {wr w1 : World} {blk : Nat} {S : List Str} {row : Option Nat} (h : Strs wr blk S) (hg : wr.grownBy w1 row) (hne : some blk ≠ row) : Strs w1 blk S :=
  fun j hj => hg.cell (h j hj) hne

theorem Strs.alloc {wr : World} {blk : Nat} {S : List Str} (h : Strs wr blk S) (o : Obj) : Strs (wr.alloc o) blk S :=
  h.kept (World.grownBy_alloc wr o none) (by simp)

theorem strs_new (wr : World) (S : List Str) : Strs (wr.alloc (.cells (S.map (fun s => Value.string (bs s))).toArray 9)) wr.heap.size S := by
  intro j hj
  have e : (wr.alloc (.cells (S.map (fun s => Value.string (bs s))).toArray 9)).heap[wr.heap.size]? = some (.cells (S.map (fun s => Value.string (bs s))).toArray 9) := by
    have e1 : ∀ o, (wr.alloc o).heap = wr.heap.push o := fun _ => rfl
    rw [e1, Array.getElem?_push_size]
  unfold World.cell?
  rw [e]
  simp [hj]

/-- In the middle of collationNames: at most N names lie in the map, the names L; the lists lie in their blocks. -/
structure Mid (w : World) (N : Nat) (L : List Str) (wr : World) : Prop where
  bel : Below w.heap.size w wr
  size : w.heap.size + 4 ≤ wr.heap.size
  langs : Strs wr w.heap.size langL
  locs : Strs wr (w.heap.size + 1) locL
  css : Strs wr (w.heap.size + 1 + 1 + 1) csL
  own : wr.ownsMap Try.prog 9 (plainElem Try.prog 4) (w.heap.size + 1 + 1) N (Dat L)

theorem Mid.alloc {w wr : World} {N : Nat} {L : List Str} (h : Mid w N L wr) (o : Obj) : Mid w N L (wr.alloc o) :=
  ⟨h.bel.alloc h.bel.size o, by have := h.size; simp; omega, h.langs.alloc o, h.locs.alloc o, h.css.alloc o, h.own.alloc o⟩

theorem Mid.store {w wr w1 : World} {N : Nat} {L : List Str} (h : Mid w N L wr) {x : Str} (ho : w1.ownsMap Try.prog 9 (plainElem Try.prog 4) (w.heap.size + 1 + 1) (N + 1) ((Dat L).put (.string x) (.lit (.bool true))))
    (hg : wr.grownBy w1 (some (w.heap.size + 1 + 1))) : Mid w (N + 1) (L ++ [x]) w1 :=
  ⟨h.bel.grown hg h.bel.size (by rintro k ⟨⟩; omega), by have := h.size; have := hg.size; omega, h.langs.kept hg (by simp; omega), h.locs.kept hg (by simp), h.css.kept hg (by simp), by
    unfold Dat
    rw [List.map_append, List.map_cons, List.map_nil, setOf_snoc]
    exact ho⟩

theorem Mid.cast {w wr : World} {N M : Nat} {L K : List Str} (h : Mid w N L wr) (hn : N = M) (hl : L = K) : Mid w M K wr := by subst hn hl; exact h

theorem key_str (s : ByteArray) (x : Str) (h : s.data.toList = x) (hs : s.size ≤ 1000) : keyOf Try.prog 9 (.string s) = some (.string x) := by
  subst h
  exact keyOf_string_mk Try.underlying9 (by unfold maxLen; omega)

theorem bs_list (l : Str) : (bs l).data.toList = l := rfl
theorem bs_size (l : Str) : (bs l).size = l.length := rfl

theorem com_size : ∀ x ∈ comL, x.length ≤ 40 := by decide
theorem lang_size : ∀ x ∈ langL, x.length ≤ 40 := by decide
theorem loc_size : ∀ x ∈ locL, x.length ≤ 40 := by decide
theorem mb4_size : ∀ x ∈ mb4L, x.length ≤ 40 := by decide
theorem cs_size : ∀ x ∈ csL, x.length ≤ 40 := by decide

/-- How collationNames ends. -/
def NPost (w : World) (e : Ending) (w' : World) : Prop := e = .returned (.map (some (w.heap.size + 1 + 1))) ∧ ∃ N, Mid w N (allNames comL langL mb4L locL) w'

theorem take_snoc {α : Type} (S : List α) (k : Nat) (h : k < S.length) : S.take (k + 1) = S.take k ++ [S[k]] := by
  rw [List.take_add_one, List.getElem?_eq_getElem h]; rfl

end Go.Proofs.Qxb6601474a
