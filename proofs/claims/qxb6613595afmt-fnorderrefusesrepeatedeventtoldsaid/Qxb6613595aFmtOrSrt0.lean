import Derived.Test.Qxb6613595aFmtOrCmpD
import Derived.Ground.NamesProg
import Derived.Shelf.Small.Bits
namespace Go.Proofs.Qxb6613595aFmt
open Go.RowKit Go.Maps Go.Sort
attribute [local go_sem ↓] Go.wp_at_zero Go.wp_at_succ
set_option linter.unusedVariables false

open Go.Shelf in
shelf_lay Lays.n125 Nm 125 at Tryf as Tryf.bitsLen

theorem len0 (w : World) : Calls Tryf.prog 28 #[.int .u64 0] w fun e w' => (∃ n : Nat, e = .returned (.int .i64 (n : Int))) ∧ w' = w :=
  (Any.bits_Len Tryf.bitsLen 0 w (by omega) (by omega)).mono fun _ _ ⟨he, hw⟩ => ⟨⟨_, he⟩, hw⟩

theorem ins59 (s c : Value) (w : World) : Calls Tryf.prog 59 #[s, .int .i64 0, .int .i64 0, c] w fun e w' => e = .returned (.tuple #[]) ∧ w' = w := by
  go_enter Tryf.func59, Tryf.ntmps59
  go_wp2_with fail
  go_loopg [8] 0 (fun k s8 wr => s8 = .int .i64 1 ∧ wr = w)
  case atStart => exact ⟨rfl, rfl⟩
  case round =>
    obtain ⟨rfl, rfl⟩ := hrel
    go_wp2_with fail
    go_end0
    exact ⟨rfl, rfl⟩
theorem ins79 (s c : Value) (w : World) : Calls Tryf.prog 79 #[s, .int .i64 0, .int .i64 0, c] w fun e w' => e = .returned (.tuple #[]) ∧ w' = w := by
  go_enter Tryf.func79, Tryf.ntmps79
  go_wp2_with fail
  go_loopg [8] 0 (fun k s8 wr => s8 = .int .i64 1 ∧ wr = w)
  case atStart => exact ⟨rfl, rfl⟩
  case round =>
    obtain ⟨rfl, rfl⟩ := hrel
    go_wp2_with fail
    go_end0
    exact ⟨rfl, rfl⟩

set_option maxRecDepth 20000 in
theorem pdq38 (s c : Value) (n : Nat) (w : World) : Calls Tryf.prog 38 #[s, .int .i64 0, .int .i64 0, .int .i64 (n : Int), c] w fun e w' => e = .returned (.tuple #[]) ∧ w' = w := by
  go_enter Tryf.func38, Tryf.ntmps38
  go_wp2_with fail
  go_loopg [1, 2] 0 (fun k s1 s2 wr => s1 = .int .i64 0 ∧ s2 = .int .i64 0 ∧ wr = w)
  case atStart => exact ⟨rfl, rfl, rfl⟩
  case round =>
    obtain ⟨rfl, rfl, rfl⟩ := hrel
    go_wp2_with (go_at_call 59; refine (ins59 _ _ _).mono ?_; rintro e w' ⟨rfl, rfl⟩)
    refine bodyPost_ret (results_none rfl _ _ _) rfl ?_
    exact ⟨rfl, rfl⟩
set_option maxRecDepth 20000 in
theorem pdq67 (s c : Value) (n : Nat) (w : World) : Calls Tryf.prog 67 #[s, .int .i64 0, .int .i64 0, .int .i64 (n : Int), c] w fun e w' => e = .returned (.tuple #[]) ∧ w' = w := by
  go_enter Tryf.func67, Tryf.ntmps67
  go_wp2_with fail
  go_loopg [1, 2] 0 (fun k s1 s2 wr => s1 = .int .i64 0 ∧ s2 = .int .i64 0 ∧ wr = w)
  case atStart => exact ⟨rfl, rfl, rfl⟩
  case round =>
    obtain ⟨rfl, rfl, rfl⟩ := hrel
    go_wp2_with (go_at_call 79; refine (ins79 _ _ _).mono ?_; rintro e w' ⟨rfl, rfl⟩)
    refine bodyPost_ret (results_none rfl _ _ _) rfl ?_
    exact ⟨rfl, rfl⟩
theorem srt18 (q : Option Addr) (cp : Nat) (c : Value) (w : World) : Calls Tryf.prog 18 #[.slice q 0 cp, c] w fun e w' => e = .returned (.tuple #[]) ∧ w' = w := by
  go_enter Tryf.func18, Tryf.ntmps18
  go_wp2_with (first | (go_at_call 28; refine (len0 _).mono ?_; rintro e w' ⟨⟨n, rfl⟩, rfl⟩) | (go_at_call 38; refine (pdq38 _ _ _ _).mono ?_; rintro e w' ⟨rfl, rfl⟩))
  go_end0
  exact ⟨rfl, rfl⟩
theorem srt40 (q : Option Addr) (cp : Nat) (c : Value) (w : World) : Calls Tryf.prog 40 #[.slice q 0 cp, c] w fun e w' => e = .returned (.tuple #[]) ∧ w' = w := by
  go_enter Tryf.func40, Tryf.ntmps40
  go_wp2_with (first | (go_at_call 28; refine (len0 _).mono ?_; rintro e w' ⟨⟨n, rfl⟩, rfl⟩) | (go_at_call 67; refine (pdq67 _ _ _ _).mono ?_; rintro e w' ⟨rfl, rfl⟩))
  go_end0
  exact ⟨rfl, rfl⟩

theorem cmpW_neg (x y : Nat × Nat) : cmpW x y < 0 ↔ (x.1 < y.1 ∨ (x.1 = y.1 ∧ x.2 < y.2)) := by
  unfold cmpW cmpN
  by_cases h1 : x.1 < y.1
  · simp [h1]
  · by_cases h2 : y.1 < x.1
    · simp [h1, h2]; omega
    · by_cases h3 : x.2 < y.2
      · simp [h1, h2, h3]; omega
      · by_cases h4 : y.2 < x.2
        · simp [h1, h2, h3, h4]
        · simp [h1, h2, h3, h4]

theorem swo_up {α : Type} (f : α → Nat × Nat) : SWO (ltOf fun x y : α => cmpW (f x) (f y)) where
  irrefl := fun x => by simp only [ltOf, decide_eq_false_iff_not, cmpW_neg]; omega
  trans := fun x y z h1 h2 => by simp only [ltOf, decide_eq_true_eq, cmpW_neg] at *; omega
  ntrans := fun x y z h1 h2 => by simp only [ltOf, decide_eq_false_iff_not, cmpW_neg] at *; omega
theorem swo_down {α : Type} (f : α → Nat × Nat) : SWO (ltOf fun x y : α => cmpW (f y) (f x)) where
  irrefl := fun x => by simp only [ltOf, decide_eq_false_iff_not, cmpW_neg]; omega
  trans := fun x y z h1 h2 => by simp only [ltOf, decide_eq_true_eq, cmpW_neg] at *; omega
  ntrans := fun x y z h1 h2 => by simp only [ltOf, decide_eq_false_iff_not, cmpW_neg] at *; omega

theorem gr_grow {W w' : World} (h : Gr W w') : ∃ q os', w' = grow (W.drewN q) os' := by
  refine ⟨w'.drawn - W.drawn, w'.heap.extract W.heap.size w'.heap.size, ?_⟩
  have hd := h.drawn
  have hh : W.heap ++ w'.heap.extract W.heap.size w'.heap.size = w'.heap := by
    apply Array.ext_getElem?
    intro k
    by_cases hk : k < W.heap.size
    · rw [Array.getElem?_append_left hk, h.below.block k hk]
    · rw [Array.getElem?_append_right (by omega), Array.getElem?_extract]
      by_cases hk2 : k < w'.heap.size
      · rw [if_pos (by omega), show W.heap.size + (k - W.heap.size) = k by omega]
      · rw [if_neg (by omega), Array.getElem?_eq_none (by omega)]
  unfold grow World.drewN
  rw [show W.drawn + (w'.drawn - W.drawn) = w'.drawn by omega]
  show w' = { W with heap := W.heap ++ _, drawn := w'.drawn }
  rw [hh]
  have h1 := h.below.os
  have h2 := h.below.tape
  have h3 := h.below.output
  cases w'
  cases W
  simp_all

section
variable {α : Type} [Inhabited α]
theorem swK_size (enc : α → List Value) (k : Nat) (w : World) (g off m : Nat) (dk : Array α) (os : Array Obj) : (sortWorldK enc k w g off m dk os).heap.size = w.heap.size + os.size := by
  simp [sortWorldK, grow, putRowK]
theorem swK_other (enc : α → List Value) (k : Nat) (w : World) (g off m : Nat) (dk : Array α) (os : Array Obj) (b : Nat) (hb : b < w.heap.size) (hne : b ≠ g) : (sortWorldK enc k w g off m dk os).heap[b]? = w.heap[b]? := by
  show ((putRowK enc k (Sort.ahead w m) g off dk).heap ++ os)[b]? = _
  rw [Array.getElem?_append_left (by simpa [putRowK] using hb)]
  simp [putRowK, putRow, mapBlock, Array.getElem?_modify, Ne.symm hne]
theorem sw1_size (enc : α → Value) (w : World) (g off m : Nat) (dk : Array α) (os : Array Obj) : (sortWorld enc w g off m dk os).heap.size = w.heap.size + os.size := by
  simp [sortWorld, grow]
theorem sw1_other (enc : α → Value) (w : World) (g off m : Nat) (dk : Array α) (os : Array Obj) (b : Nat) (hb : b < w.heap.size) (hne : b ≠ g) : (sortWorld enc w g off m dk os).heap[b]? = w.heap[b]? := by
  show ((putRow enc (Sort.ahead w m) g off dk).heap ++ os)[b]? = _
  rw [Array.getElem?_append_left (by simpa using hb)]
  simp [putRow, mapBlock, Array.getElem?_modify, Ne.symm hne]
theorem sw1_own (enc : α → Value) (w : World) (g off m : Nat) (dk : Array α) (os : Array Obj) (cur : Array Value) (E : TypeId) (h : w.heap[g]? = some (.cells cur E (0, 0))) :
    (sortWorld enc w g off m dk os).heap[g]? = some (.cells (putCells enc off dk cur) E (0, 0)) := by
  have hb : g < w.heap.size := blk_lt h
  show ((putRow enc (Sort.ahead w m) g off dk).heap ++ os)[g]? = _
  rw [Array.getElem?_append_left (by simpa using hb)]
  simp [putRow, mapBlock, Array.getElem?_modify, h, onCells]
theorem swK_own (enc : α → List Value) (k : Nat) (w : World) (g off m : Nat) (dk : Array α) (os : Array Obj) (cur : Array Value) (E : TypeId) (h : w.heap[g]? = some (.cells cur E (0, 0))) :
    (sortWorldK enc k w g off m dk os).heap[g]? = some (.cells (putCells id off (flatK enc k dk) cur) E (0, 0)) := by
  have hb : g < w.heap.size := blk_lt h
  show ((putRowK enc k (Sort.ahead w m) g off dk).heap ++ os)[g]? = _
  rw [Array.getElem?_append_left (by simpa [putRowK] using hb)]
  simp [putRowK, putRow, mapBlock, Array.getElem?_modify, h, onCells]
end
theorem put_size {α : Type} [Inhabited α] (enc : α → Value) (off : Nat) (F : Array α) (cur : Array Value) : (putCells enc off F cur).size = cur.size := by simp [putCells]
theorem put_take {α : Type} [Inhabited α] (enc : α → Value) (F : Array α) (cur : Array Value) (h : F.size ≤ cur.size) : (putCells enc 0 F cur).toList.take F.size = F.toList.map enc := by
  apply List.ext_getElem?
  intro t
  unfold putCells
  by_cases h2 : t < F.size
  · have ht : t < cur.size := by omega
    rw [List.getElem?_take, if_pos h2, Array.getElem?_toList, Array.getElem?_mapIdx, Array.getElem?_eq_getElem ht, List.getElem?_map, Array.getElem?_toList, Array.getElem?_eq_getElem h2]
    simp only [Option.map_some]
    rw [if_pos ⟨by omega, by omega⟩, Nat.sub_zero, getElem!_pos F t h2]
  · rw [List.getElem?_eq_none (by simp; omega), List.getElem?_eq_none (by simp; omega)]
end Go.Proofs.Qxb6613595aFmt
