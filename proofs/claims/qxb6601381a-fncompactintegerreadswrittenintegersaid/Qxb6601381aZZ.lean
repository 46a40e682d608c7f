/- The walk of ZZCompactInteger (18). -/
import Derived.Test.Qxb6601381aReader
namespace Go.Proofs.Qxb6601381a
open Go.RowKit

/-- How ZZCompactInteger ends. -/
def CPost (r : Int × Int × Bool) (w : World) (e : Ending) (w' : World) : Prop :=
  e = .returned (.tuple #[.int .i64 r.1, .int .i64 r.2.1, .bool r.2.2]) ∧ Below w.heap.size w w'

theorem rd_new (w : World) (a : Option Addr) (N cap : Nat) (i n : Int) : Rd ((w.alloc (.cells #[.int .i64 n] 2)).alloc (.cells #[.slice a N cap, .int .i64 i] 55)) (w.heap.size + 1) w.heap.size a N cap i n := by
  have h1 : ((w.alloc (.cells #[.int .i64 n] 2)).alloc (.cells #[.slice a N cap, .int .i64 i] 55)).heap[w.heap.size + 1]? = some (.cells #[.slice a N cap, .int .i64 i] 55 (0, 0)) := by
    have := heap_alloc_new (w.alloc (.cells #[.int .i64 n] 2)) (.cells #[.slice a N cap, .int .i64 i] 55)
    simpa using this
  have h2 : ((w.alloc (.cells #[.int .i64 n] 2)).alloc (.cells #[.slice a N cap, .int .i64 i] 55)).heap[w.heap.size]? = some (.cells #[.int .i64 n] 2 (0, 0)) := by
    rw [Below.heap_alloc _ _ _ (by simp)]
    exact heap_alloc_new w _
  exact ⟨(cell_of_row _ _ 0 _ _ _ h1).trans rfl, (cell_of_row _ _ 1 _ _ _ h1).trans rfl, (cell_of_row _ _ 0 _ _ _ h2).trans rfl, frozen_of_row _ _ 1 _ _ h1, frozen_of_row _ _ 0 _ _ h2⟩

theorem old_cells (w : World) (o1 o2 : Obj) (p : Addr) (hp : p.block < w.heap.size) : ((w.alloc o1).alloc o2).cell? p = w.cell? p :=
  Below.cell (((Below.refl w.heap.size w).alloc (Nat.le_refl _) o1).alloc (by simp) o2) hp

set_option maxHeartbeats 1000000 in
theorem zz_core (a : Option Addr) (N cap : Nat) (i n bs : Int) (w : World) (r : Int × Int × Bool)
    (H : Hid (∀ W R NB, Rd W R NB a N cap i n → R ≠ NB → (∀ p : Addr, p.block < w.heap.size → W.cell? p = w.cell? p) → Calls Try.prog 33 #[.pointer (some ⟨R, 0, none⟩), .pointer (some ⟨NB, 0, none⟩), .int .i64 bs] W (IPost R NB r W))) :
    Calls Try.prog 18 #[.slice a N cap, .int .i64 i, .int .i64 n, .int .i64 bs] w (CPost r w) := by
  go_enter Try.func18, Try.ntmps18
  go_wp2_with fail
  refine (H.out _ (w.heap.size + 1) w.heap.size (rd_new w a N cap i n) (by omega) (fun p hp => old_cells w _ _ p hp)).mono ?_
  rintro e w2 ⟨rfl, c1, c2, hb⟩
  have HB : Hid (Below w.heap.size w w2) := (((Below.refl w.heap.size w).alloc (Nat.le_refl _) _).alloc (by simp) _).trans (hb w.heap.size (by omega) (Nat.le_refl _))
  clear hb
  obtain ⟨v, e, ok⟩ := r
  go_wp2
  go_quiet (fail)
  go_wp2
  go_ret3
  exact ⟨rfl, below_drewN HB.out _⟩

theorem zz_any (v : Value) (B : List Int) (i : Nat) (n bs : Int) (w : World) (ho : Own w v B) (hB : B.length ≤ 2000000) (h1 : 1 ≤ bs) (h2 : bs ≤ 9223372036854775807) :
    Calls Try.prog 18 #[v, .int .i64 i, .int .i64 n, .int .i64 bs] w (CPost (ci B i n bs) w) := by
  rcases ho.form with ⟨rfl, rfl⟩ | ⟨g, cap, rfl, hc, h63, hg, hcell⟩
  · refine zz_core none 0 0 i n bs w _ ?_
    intro W R NB hrd _ _
    exact integer_past R NB none [] 0 0 i n bs W hrd rfl (Nat.zero_le _)
  · refine zz_core _ _ _ i n bs w _ ?_
    intro W R NB hrd hne hold
    by_cases hi : i < B.length
    · refine integer_in R NB g B B.length cap i n bs W hrd hne (fun j hj => ?_) rfl hB hc (by simpa [maxLen] using h63) hi h1 h2
      rw [Nat.zero_add, hold _ hg]
      exact hcell j hj
    · exact integer_past R NB _ B B.length cap i n bs W hrd rfl (by omega)

end Go.Proofs.Qxb6601381a
