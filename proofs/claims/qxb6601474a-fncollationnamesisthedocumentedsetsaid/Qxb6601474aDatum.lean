/- The map's datum: its size, its keys, its values; and the look-up's law at elements of type bool. -/
import Derived.Test.Qxb6601474aWorld
import Derived.KernelRfl
namespace Go.Proofs.Qxb6601474a
open Go.RowKit Go.Maps

def allN : List Str := allNames comL langL mb4L locL

theorem keyLits (L : List Str) : ∀ x ∈ L.map Lit.string, WideAt.IsKeyLit x := by
  intro x hx
  obtain ⟨s, _, rfl⟩ := List.mem_map.1 hx
  trivial

theorem count141 : ((allN.map Lit.string).foldl addKey []).length = 141 := by decide +kernel

theorem dat_size : Maps.size (Dat allN) = 141 := by
  unfold Dat
  rw [size_setOf _ _ (keyLits _), count141]

theorem dat_has (L : List Str) (y : Str) : Maps.has (Dat L) (.string y) = true ↔ y ∈ L := by
  unfold Dat
  rw [has_setOf _ _ _ (keyLits _), List.any_eq_true]
  constructor
  · rintro ⟨x, hx, h⟩
    obtain ⟨s, hs, rfl⟩ := List.mem_map.1 hx
    have := WideAt.sameKey_eq h
    cases this
    exact hs
  · intro h
    exact ⟨_, List.mem_map.2 ⟨y, h, rfl⟩, WideAt.sameKey_self trivial⟩

theorem at_fold (k : Lit) : ∀ (acc : List Lit) (m : DataW Unit), IsMap m → (∀ x ∈ acc, WideAt.IsKeyLit x) → m.atKey k (.lit (.bool false)) = .lit (.bool (has m k)) →
    (acc.foldl (fun m x => m.put x (.lit (.bool true))) m).atKey k (.lit (.bool false)) = .lit (.bool (has (acc.foldl (fun m x => m.put x (.lit (.bool true))) m) k))
  | [], _, _, _, h => h
  | x :: r, m, hm, h, h0 => by
    rw [List.foldl_cons]
    refine at_fold k r (m.put x (.lit (.bool true))) (hm.put x _) (fun y hy => h y (by simp [hy])) ?_
    by_cases e : k = x
    · subst e
      rw [has_put_same hm (h k (by simp)), atKey_put_same hm (h k (by simp))]
    · rw [has_put_other e, atKey_put_other e, h0]

theorem at_dat (L : List Str) (k : Lit) : (Dat L).atKey k (.lit (.bool false)) = .lit (.bool (has (Dat L) k)) :=
  at_fold k _ _ isMap_empty (keyLits _) rfl

theorem plainElem_bool_inv {v : Value} {x : Bool} {ps : List MemPlace} (h : plainElem (H := Unit) Try.prog 4 v = some (.lit (.bool x), ps)) : v = .bool x := by
  unfold plainElem at h
  rw [Try.underlying4] at h
  cases v <;> simp at h
  rw [h.1]

/-- 'v, ok := m[k]' on the names' map: both are 'has'. -/
theorem wpList_lookup_dat (w : World) {ops : Array Oper} {rest : List Oper} {o : Oper} {a : Act} {Q : Exit → Act → World → Prop} (hg : o.guard = none) (m x : Operand) (hop : o.op = Op.lookup 23 m x true)
    (b n : Nat) (L : List Str) (hm : a.eval m = .map (some b)) (hown : w.ownsMap Try.prog 9 (plainElem Try.prog 4) b n (Dat L)) (key : Value) (kl : Lit) (hx : a.eval x = key) (hkey : keyOf Try.prog 9 key = some kl)
    (c : Bool) (hc : has (Dat L) kl = c) (hK : wpList Try.prog ops Q rest (a.put o.dst (.tuple #[.bool c, .bool c])) w) :
    wpList Try.prog ops Q (o :: rest) a w :=
  wpList_lookup_own_ok w hg m x 23 hop 9 4 law Try.underlying23 (plainElem Try.prog 4) (zeroE w) (.lit (.bool false)) [] (plainElem_bool Try.underlying4 false) b n (Dat L) hm hown key kl hx hkey (fun v ps hv => by
    rw [at_dat, hc] at hv
    rw [plainElem_bool_inv hv, hc]
    exact hK)

/-- 'len(m)' on the names' map. -/
theorem wpList_len_dat (w : World) {ops : Array Oper} {rest : List Oper} {o : Oper} {a : Act} {Q : Exit → Act → World → Prop} (hg : o.guard = none) (m : Operand) (hop : o.op = Op.call { callee := Callee.builtin Builtin.len, args := #[m], argTypes := #[23] })
    (b n : Nat) (hm : a.eval m = .map (some b)) (hown : w.ownsMap Try.prog 9 (plainElem Try.prog 4) b n (Dat allN))
    (hK : wpList Try.prog ops Q rest (a.put o.dst (.int .i64 141)) w) :
    wpList Try.prog ops Q (o :: rest) a w := by
  refine wpList_len_own w hg m 23 hop 9 4 Try.underlying23 _ b n (Dat allN) hm hown ?_
  rw [dat_size]
  exact hK

end Go.Proofs.Qxb6601474a
