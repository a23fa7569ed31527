import Derived.Test.Qxb6608761aEmMv2
import Derived.Test.Qxb6608761aEmGrow
namespace Go.Proofs.Qxb6608761a
open Go.RowKit Go.Sort

theorem heads_mem {f : Nat → Nat} {i : Nat} {l : List Ent} {x : Ent} (h : x ∈ heads f i l) : ∃ y ∈ l, x.s = y.s ∧ x.e = y.e ∧ x.pd = y.pd := by
  rw [heads, List.mem_mapIdx] at h
  obtain ⟨j, hj, rfl⟩ := h
  refine ⟨l[j], List.getElem_mem hj, ?_⟩
  split <;> exact ⟨rfl, rfl, rfl⟩
theorem catE_heads (f g : Nat → Nat) (i : Nat) (l : List Ent) : catE f (heads g i l) = catE f l := by
  unfold catE heads
  rw [List.flatMap_def, List.flatMap_def]
  congr 1
  apply List.ext_getElem?
  intro j
  simp only [List.getElem?_map, List.getElem?_mapIdx]
  cases l[j]? with
  | none => rfl
  | some x => simp only [Option.map_some]; congr 1; split <;> rfl
theorem catE_perm_length {f : Nat → Nat} {a b : List Ent} (h : a.Perm b) : (catE f a).length = (catE f b).length := by
  exact (h.flatMap_right _).length_eq

/-- Behind the sort: as 'Sorted', told of the world ahead of the mark's box. -/
structure S3 (f : Nat → Nat) (g off : Nat) (cur : Array Value) (l l' : List Ent) (w wm w3 : World) : Prop where
  perm : l'.Perm l
  order : l'.Pairwise (fun x y => cfE f x y ≤ 0)
  os : w3.os = w.os
  tape : w3.tape = w.tape
  output : w3.output = w.output
  size : wm.heap.size ≤ w3.heap.size
  keep : ∀ b, b < wm.heap.size → b ≠ g → w3.heap[b]? = wm.heap[b]?
  own : w3.heap[g]? = some (.cells (cur.toList.take off ++ flatE l' ++ cur.toList.drop (off + l.length * 4)).toArray 77 (0, 0))
theorem S3.of {f : Nat → Nat} {g off : Nat} {cur : Array Value} {l l' : List Ent} {w wm W w3 : World} (h : Sorted f g off cur l l' W w3) (hW : W.heap = wm.heap ∧ W.os = w.os ∧ W.tape = w.tape ∧ W.output = w.output) : S3 f g off cur l l' w wm w3 :=
  ⟨h.perm, h.order, h.os.trans hW.2.1, h.tape.trans hW.2.2.1, h.output.trans hW.2.2.2, by rw [← hW.1]; exact h.size, fun b hb hn => by rw [← hW.1]; exact h.block b (by rw [hW.1]; exact hb) hn, h.own⟩
theorem S3.length {f : Nat → Nat} {g off : Nat} {cur : Array Value} {l l' : List Ent} {w wm w3 : World} (h : S3 f g off cur l l' w wm w3) : l'.length = l.length := h.perm.length_eq
/-- What lies behind the sort in the entries' own block. -/
theorem S3.get {f : Nat → Nat} {g off : Nat} {cur : Array Value} {l l' : List Ent} {w wm w3 : World} (h : S3 f g off cur l l' w wm w3) (hoff : off ≤ cur.size) (j : Nat) (hj : j < l'.length * 4) :
    (cur.toList.take off ++ flatE l' ++ cur.toList.drop (off + l.length * 4)).toArray[off + j]? = (flatE l')[j]? := by
  have _ := h.perm
  rw [List.getElem?_toArray, List.append_assoc, List.getElem?_append_right (by simp; omega)]
  have e : off + j - (cur.toList.take off).length = j := by simp; omega
  rw [e, List.getElem?_append_left (by rw [flatE_length]; exact hj)]

/-- Behind the inner EndMap. -/
structure Inner (base oB : Nat) (f : Nat → Nat) (p : Option Addr) (N start : Nat) (lo li l' : List Ent) (a : Nat) (ip : Int) (sv : Value) (w w' : World) : Prop where
  perm : l'.Perm (heads f li.length li)
  order : l'.Pairwise (fun x y => cfE f x y ≤ 0)
  mo : ∃ ov pv sc, Mo base oB lo 1 (pendL a 0 0 0 0) ip ov pv sv sc w'
  body : BB w' base p N (mvF f start (catE f l'))
  fr : Fr base (fun b => ∃ x, p = some x ∧ b = x.block) w w'

theorem take_own {w : World} {base : Nat} {e : TypeId} {size g n cap : Nat} {xs : List Value} (h : w.ownsRow base e size (.slice (some ⟨g, 0, none⟩) n cap) n xs) (m : Nat) (hm : m ≤ n) : w.ownsRow base e size (.slice (some ⟨g, 0, none⟩) m cap) m (xs.take (m * size)) := by
  have hlen := h.1
  have hle : m * size ≤ n * size := Nat.mul_le_mul_right _ hm
  refine ⟨by rw [List.length_take]; omega, .inr ?_⟩
  rcases h.2 with ⟨h1, _⟩ | ⟨g', cap', cur, h1, h2, h3, h4, h5, h6, h7⟩
  · cases h1
  · cases h1
    exact ⟨g, cap, cur, rfl, h2, h3, by omega, h5, h6, by rw [← h7, List.take_take, Nat.min_eq_left hle]⟩
end Go.Proofs.Qxb6608761a
