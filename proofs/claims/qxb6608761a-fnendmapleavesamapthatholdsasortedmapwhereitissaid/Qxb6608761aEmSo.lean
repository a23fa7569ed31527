import Derived.Test.Qxb6608761aEmSf
namespace Go.Proofs.Qxb6608761a
open Go.RowKit Go.Sort

/-- the first i entries have their heads -/
def heads (f : Nat → Nat) (i : Nat) (l : List Ent) : List Ent := l.mapIdx fun j x => if j < i then x.put (headK 8 (seg f x.s x.e)) else x
theorem heads_length (f : Nat → Nat) (i : Nat) (l : List Ent) : (heads f i l).length = l.length := by simp [heads]
theorem heads_get (f : Nat → Nat) (i : Nat) (l : List Ent) (j : Nat) (x : Ent) (h : l[j]? = some x) : (heads f i l)[j]? = some (if j < i then x.put (headK 8 (seg f x.s x.e)) else x) := by
  simp [heads, List.getElem?_mapIdx, h]
theorem heads_zero (f : Nat → Nat) (l : List Ent) : heads f 0 l = l := by
  apply List.ext_getElem?
  intro j
  simp [heads, List.getElem?_mapIdx]

/-- the world while the heads are set: k of them -/
structure Lp (f : Nat → Nat) (oB g off : Nat) (p : Option Addr) (n c : Nat) (cur : Array Value) (l : List Ent) (k : Nat) (w wr : World) : Prop where
  os : wr.os = w.os
  tape : wr.tape = w.tape
  output : wr.output = w.output
  size : w.heap.size + 2 ≤ wr.heap.size
  block : ∀ b, b < w.heap.size → b ≠ g → wr.heap[b]? = w.heap[b]?
  box1 : wr.heap[w.heap.size]? = some (.cells #[.pointer (some ⟨oB, 0, none⟩)] 43 (0, 0))
  box2 : wr.heap[w.heap.size + 1]? = some (.cells #[.slice p n c] 38 (0, 0))
  own : ∃ cu : Array Value, wr.heap[g]? = some (.cells cu 77 (0, 0)) ∧ cu.size = cur.size ∧ (∀ j, j < off ∨ off + l.length * 4 ≤ j → cu[j]? = cur[j]?) ∧ ∀ j, j < l.length * 4 → cu[off + j]? = (flatE (heads f k l))[j]?

theorem Lp.grow {f : Nat → Nat} {oB g off : Nat} {p : Option Addr} {n c : Nat} {cur : Array Value} {l : List Ent} {k : Nat} {w wr wr' : World} (h : Lp f oB g off p n c cur l k w wr) (hg : g < w.heap.size) (hb : Below wr.heap.size wr wr') : Lp f oB g off p n c cur l k w wr' := by
  have hs := h.size
  refine ⟨hb.os.trans h.os, hb.tape.trans h.tape, hb.output.trans h.output, Nat.le_trans hs hb.size, fun b hb1 hb2 => (hb.block b (by omega)).trans (h.block b hb1 hb2), (hb.block _ (by omega)).trans h.box1, (hb.block _ (by omega)).trans h.box2, ?_⟩
  rw [hb.block g (by omega)]
  exact h.own
end Go.Proofs.Qxb6608761a
