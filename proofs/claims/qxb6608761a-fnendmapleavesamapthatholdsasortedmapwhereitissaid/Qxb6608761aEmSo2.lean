import Derived.Test.Qxb6608761aEmSo
namespace Go.Proofs.Qxb6608761a
open Go.RowKit Go.Sort

theorem setCellOwn (w : World) (b o : Nat) (c : Array Value) (E : TypeId) (v : Value) (h : w.heap[b]? = some (.cells c E (0, 0))) :
    (w.setCell ⟨b, o, none⟩ v).heap[b]? = some (.cells (c.setIfInBounds o v) E (0, 0)) := by
  simp [World.setCell, Array.getElem?_modify, h]

theorem flat_heads_step (f : Nat → Nat) (l : List Ent) (k : Nat) (x : Ent) (hx : l[k]? = some x) (j : Nat) (hj : j < l.length * 4) :
    (flatE (heads f (k + 1) l))[j]? = if j = 4 * k + 3 then some (.int .u64 ((headK 8 (seg f x.s x.e) : Nat) : Int)) else (flatE (heads f k l))[j]? := by
  have h4 : j / 4 < l.length := by omega
  obtain ⟨y, hy⟩ : ∃ y, l[j / 4]? = some y := ⟨_, List.getElem?_eq_getElem h4⟩
  have a := flatE_get _ (j / 4) (j % 4) _ (heads_get f (k + 1) l (j / 4) y hy) (Nat.mod_lt _ (by omega))
  have b := flatE_get _ (j / 4) (j % 4) _ (heads_get f k l (j / 4) y hy) (Nat.mod_lt _ (by omega))
  rw [Nat.div_add_mod] at a b
  rw [a, b]
  by_cases e : j / 4 = k
  · subst e
    rw [hx] at hy
    cases hy
    rw [if_pos (Nat.lt_succ_self _), if_neg (Nat.lt_irrefl _)]
    have hm : j % 4 = 0 ∨ j % 4 = 1 ∨ j % 4 = 2 ∨ j % 4 = 3 := by omega
    rcases hm with h | h | h | h
    · rw [h, if_neg (by omega)]; rfl
    · rw [h, if_neg (by omega)]; rfl
    · rw [h, if_neg (by omega)]; rfl
    · rw [h, if_pos (by omega)]; rfl
  · rw [if_neg (show ¬ j = 4 * k + 3 by omega)]
    by_cases e2 : j / 4 < k
    · rw [if_pos (by omega), if_pos e2]
    · rw [if_neg (by omega), if_neg e2]

theorem Lp.store {f : Nat → Nat} {oB g off : Nat} {p : Option Addr} {n c : Nat} {cur : Array Value} {l : List Ent} {k : Nat} {w wr : World} (h : Lp f oB g off p n c cur l k w wr) (hg : g < w.heap.size) (x : Ent) (hx : l[k]? = some x) (hfit : off + l.length * 4 ≤ cur.size) (hk : k < l.length) :
    Lp f oB g off p n c cur l (k + 1) w (wr.setCell ⟨g, off + (4 * k + 3), none⟩ (.int .u64 ((headK 8 (seg f x.s x.e) : Nat) : Int))) := by
  have o : ∀ b, b ≠ g → (wr.setCell ⟨g, off + (4 * k + 3), none⟩ (.int .u64 ((headK 8 (seg f x.s x.e) : Nat) : Int))).heap[b]? = wr.heap[b]? := fun b hb => Below.heap_setCell _ _ _ _ hb
  refine ⟨h.os, h.tape, h.output, by simpa [World.setCell] using h.size, fun b h1 h2 => (o b h2).trans (h.block b h1 h2), (o _ (by omega)).trans h.box1, (o _ (by omega)).trans h.box2, ?_⟩
  obtain ⟨cu, h1, h2, h3, h4⟩ := h.own
  refine ⟨_, setCellOwn _ g _ cu 77 _ h1, by simpa using h2, fun j hj => ?_, fun j hj => ?_⟩
  · rw [Array.getElem?_setIfInBounds, if_neg (by omega)]
    exact h3 j hj
  · rw [Array.getElem?_setIfInBounds, flat_heads_step f l k x hx j hj, ← h4 j hj]
    by_cases e : j = 4 * k + 3
    · subst e
      rw [if_pos rfl, if_pos rfl, if_pos (by omega)]
    · rw [if_neg (by omega), if_neg e]
end Go.Proofs.Qxb6608761a
