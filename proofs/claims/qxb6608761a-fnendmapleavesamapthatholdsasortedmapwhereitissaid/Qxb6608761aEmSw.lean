import Derived.Test.Qxb6608761aEmEnt
namespace Go.Proofs.Qxb6608761a
open Go.RowKit Go.Sort

/-- the cells of the row from off on read l -/
def RdE (w : World) (g off : Nat) (l : List Ent) : Prop := ∀ j, j < l.length * 4 → w.cell? ⟨g, off + j, none⟩ = (flatE l)[j]? ∧ w.frozen? ⟨g, off + j, none⟩ = false

section
variable {α : Type} [Inhabited α] (enc : α → List Value) (k : Nat)
theorem sw_size (w : World) (g off m : Nat) (dk : Array α) (os : Array Obj) : (sortWorldK enc k w g off m dk os).heap.size = w.heap.size + os.size := by
  simp [sortWorldK, grow, putRowK]
theorem sw_other (w : World) (g off m : Nat) (dk : Array α) (os : Array Obj) (b : Nat) (hb : b < w.heap.size) (hne : b ≠ g) : (sortWorldK enc k w g off m dk os).heap[b]? = w.heap[b]? := by
  show ((putRowK enc k (Sort.ahead w m) g off dk).heap ++ os)[b]? = _
  rw [Array.getElem?_append_left (by simpa [putRowK] using hb)]
  simp [putRowK, putRow, mapBlock, Array.getElem?_modify, Ne.symm hne]
theorem sw_own (w : World) (g off m : Nat) (dk : Array α) (os : Array Obj) (cur : Array Value) (E : TypeId) (h : w.heap[g]? = some (.cells cur E (0, 0))) :
    (sortWorldK enc k w g off m dk os).heap[g]? = some (.cells (putCells id off (flatK enc k dk) cur) E (0, 0)) := by
  have hb : g < w.heap.size := by
    by_cases hb : g < w.heap.size
    · exact hb
    · rw [Array.getElem?_eq_none (by omega)] at h; cases h
  show ((putRowK enc k (Sort.ahead w m) g off dk).heap ++ os)[g]? = _
  rw [Array.getElem?_append_left (by simpa [putRowK] using hb)]
  simp [putRowK, putRow, mapBlock, Array.getElem?_modify, h, onCells]
end

section
variable {β : Ent → Prop} [Inhabited { x : Ent // β x }]
theorem flatK_flatE (d : Array { x : Ent // β x }) : (flatK (fun x : { x : Ent // β x } => encE x.1) 4 d).toList = flatE (d.toList.map (·.1)) := by
  apply List.ext_getElem?
  intro t
  by_cases ht : t < d.size * 4
  · have h4 : t / 4 < d.size := by omega
    have e1 : (d.toList.map (·.1))[t / 4]? = some (d[t / 4]!).1 := by
      rw [List.getElem?_map, Array.getElem?_toList, Array.getElem?_eq_getElem h4, getElem!_pos d (t / 4) h4]; rfl
    have e2 := flatE_get (d.toList.map (·.1)) (t / 4) (t % 4) _ e1 (Nat.mod_lt _ (by omega))
    rw [Nat.div_add_mod] at e2
    rw [e2, Array.getElem?_toList]
    have e3 := get_flatK (fun x : { x : Ent // β x } => encE x.1) 4 d t ht
    rw [Array.getElem?_eq_getElem (by simpa using ht), ← getElem!_pos _ t (by simpa using ht), e3]
    have h5 : t % 4 < (encE (d[t / 4]!).1).length := by rw [encE_length]; exact Nat.mod_lt _ (by omega)
    rw [List.getElem?_eq_getElem h5, getElem!_pos _ (t % 4) h5]
  · rw [List.getElem?_eq_none (by simpa using ht), List.getElem?_eq_none (by rw [flatE_length]; simpa using ht)]
end
theorem putCells_eq (off : Nat) (F : Array Value) (cur : Array Value) (h : off + F.size ≤ cur.size) : putCells id off F cur = (cur.toList.take off ++ F.toList ++ cur.toList.drop (off + F.size)).toArray := by
  apply Array.ext'
  apply List.ext_getElem?
  intro t
  unfold putCells
  rw [Array.getElem?_toList, Array.getElem?_mapIdx]
  by_cases h1 : t < off
  · rw [List.append_assoc, List.getElem?_append_left (by simp; omega), List.getElem?_take, if_pos h1, Array.getElem?_toList]
    cases hc : cur[t]? with
    | none => simp
    | some x => simp; omega
  · by_cases h2 : t < off + F.size
    · rw [List.append_assoc, List.getElem?_append_right (by simp; omega), List.getElem?_append_left (by simp; omega)]
      have ht : t < cur.size := by omega
      rw [Array.getElem?_eq_getElem ht]
      have hm : min off cur.size = off := by omega
      have h3 : t - off < F.size := by omega
      simp only [Option.map_some, id, List.length_take, Array.length_toList, hm, Array.getElem?_toList]
      rw [if_pos ⟨by omega, h2⟩, Array.getElem?_eq_getElem h3, getElem!_pos F (t - off) h3]
    · rw [List.getElem?_append_right (by simp; omega)]
      have hm : min off cur.size = off := by omega
      simp only [List.length_append, List.length_take, Array.length_toList, hm, List.getElem?_drop, Array.getElem?_toList]
      rw [show off + F.size + (t - (off + F.size)) = t by omega]
      cases hc : cur[t]? with
      | none => simp
      | some x => simp; omega

/-- the entry x, its head set -/
def Ent.put (x : Ent) (h : Nat) : Ent := { x with h := h }

/-- what the sort leaves -/
structure Sorted (f : Nat → Nat) (g off : Nat) (cur : Array Value) (l l' : List Ent) (w w' : World) : Prop where
  perm : l'.Perm l
  order : l'.Pairwise (fun x y => cfE f x y ≤ 0)
  os : w'.os = w.os
  tape : w'.tape = w.tape
  output : w'.output = w.output
  size : w.heap.size ≤ w'.heap.size
  block : ∀ b, b < w.heap.size → b ≠ g → w'.heap[b]? = w.heap[b]?
  own : w'.heap[g]? = some (.cells (cur.toList.take off ++ flatE l' ++ cur.toList.drop (off + l.length * 4)).toArray 77 (0, 0))
end Go.Proofs.Qxb6608761a
