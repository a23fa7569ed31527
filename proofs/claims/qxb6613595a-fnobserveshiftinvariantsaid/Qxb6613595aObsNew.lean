import Derived.Test.Qxb6613595aObsRead
import Derived.BigRegion
namespace Go.Proofs.Qxb6613595a
open Go.RowKit Go.MuLone

theorem info37 : (Try.prog.info? 37).map (fun i => (i.zero, i.size, i.bytes)) = some (some (.int .i64 0), 1, 8) := by kernel_rfl
theorem info52 : (Try.prog.info? 52).map (fun i => (i.zero, i.size, i.bytes)) = some (some (.pointer none), 1, 8) := by kernel_rfl
theorem make45 (n : Nat) (hn : n ≤ 4096) (w : World) : Sem.run Try.prog (Instr.makeSlice 45 (.int .i64 n) (.int .i64 n)) w = .ok (.slice (some ⟨w.heap.size, 0, none⟩) n n) (w.alloc (.cells (row n (fun _ => 0)) 37)) := by
  rw [← made_row]
  exact run_make_row' 45 37 (.int .i64 0) 8 Try.underlying45 info37 rfl .i64 .i64 n (by omega) (by omega) w
/-- the first k pointers -/
def ptrsTo (B n k : Nat) : Array Value := ((List.range n).map fun i => if i < k then Value.pointer (some ⟨B + 5 + 2 * i, 0, none⟩) else Value.pointer none).toArray
theorem made_ptrs (B n : Nat) : madeCells #[.pointer none] n = ptrsTo B n 0 := by
  apply Array.ext'
  apply List.ext_getElem
  · simp [madeCells, ptrsTo]
  · intro i h1 h2
    simp [madeCells, ptrsTo, Nat.mod_one]
theorem make46 (B n : Nat) (hn : n ≤ 4096) (w : World) : Sem.run Try.prog (Instr.makeSlice 46 (.int .i64 n) (.int .i64 n)) w = .ok (.slice (some ⟨w.heap.size, 0, none⟩) n n) (w.alloc (.cells (ptrsTo B n 0) 52)) := by
  rw [← made_ptrs]
  exact run_make_row' 46 52 (.pointer none) 8 Try.underlying46 info52 rfl .i64 .i64 n (by omega) (by omega) w

structure Ns (w wr : World) (B n k : Nat) (now period eps back : Int) (sr of cl la : Nat → Int) : Prop where
  below : Below B w wr
  size : wr.heap.size = B + 4 + 2 * k
  sim : wr.heap[B]? = some (.cells (simCells B n now period eps back) 51 (0, 0))
  ptr : wr.heap[B + 1]? = some (.cells (ptrsTo B n k) 52 (0, 0))
  last : wr.heap[B + 2]? = some (.cells (row n (mixf k la (fun _ => 0))) 37 (0, 0))
  reads : wr.heap[B + 3]? = some (.cells (row n (fun _ => 0)) 37 (0, 0))
  var : ∀ i, i < k → wr.heap[B + 4 + 2 * i]? = some (.cells #[.int .i64 (sr i)] 37 (0, 0))
  clk : ∀ i, i < k → wr.heap[B + 5 + 2 * i]? = some (.cells (clkCells (B + 4 + 2 * i) (of i) (cl i)) 62 (0, 0))

theorem push_get (h : Array Obj) (o : Obj) (k : Nat) (hk : k < h.size) : (h.push o)[k]? = h[k]? := by rw [Array.getElem?_push, if_neg (by omega)]
theorem push_new (h : Array Obj) (o : Obj) (k : Nat) (hk : k = h.size) : (h.push o)[k]? = some o := by rw [Array.getElem?_push, if_pos hk]

theorem ns_start (w : World) (n : Nat) (now period eps back : Int) (sr of cl la : Nat → Int) :
    Ns w ((((w.alloc (.cells (simCells w.heap.size n now period eps back) 51)).alloc (.cells (ptrsTo w.heap.size n 0) 52)).alloc (.cells (row n fun _ => 0) 37)).alloc (.cells (row n fun _ => 0) 37)) w.heap.size n 0 now period eps back sr of cl la := by
  refine ⟨?_, ?_, ?_, ?_, ?_, ?_, fun i hi => by omega, fun i hi => by omega⟩
  · exact ((((Below.refl _ _).alloc (Nat.le_refl _) _).alloc (by simp) _).alloc (by simp; omega) _).alloc (by simp; omega) _
  · simp
  · show ((((w.heap.push _).push _).push _).push _)[w.heap.size]? = _
    rw [push_get _ _ _ (by simp; omega), push_get _ _ _ (by simp; omega), push_get _ _ _ (by simp), push_new _ _ _ rfl]
  · show ((((w.heap.push _).push _).push _).push _)[w.heap.size + 1]? = _
    rw [push_get _ _ _ (by simp), push_get _ _ _ (by simp), push_new _ _ _ (by simp)]
  · show ((((w.heap.push _).push _).push _).push _)[w.heap.size + 2]? = _
    rw [push_get _ _ _ (by simp), push_new _ _ _ (by simp), mixf_zero]
  · show ((((w.heap.push _).push _).push _).push _)[w.heap.size + 3]? = _
    rw [push_new _ _ _ (by simp)]

theorem ptrsTo_set (B n k : Nat) : (ptrsTo B n k).setIfInBounds k (.pointer (some ⟨B + 5 + 2 * k, 0, none⟩)) = ptrsTo B n (k + 1) := by
  apply Array.ext'
  apply List.ext_getElem
  · simp [ptrsTo]
  · intro i h1 h2
    simp only [ptrsTo, Array.toList_setIfInBounds, List.getElem_set, List.getElem_map, List.getElem_range]
    by_cases e : k = i
    · subst e; simp
    · rw [if_neg e]
      by_cases h : i < k
      · rw [if_pos h, if_pos (by omega)]
      · rw [if_neg h, if_neg (by omega)]
theorem ptrsTo_full (B n : Nat) : ptrsTo B n n = ptrs B n := by
  unfold ptrsTo ptrs
  congr 1
  exact List.map_congr_left fun i hi => by rw [if_pos (List.mem_range.1 hi)]

theorem ns_step {w wr : World} {B n k : Nat} {now period eps back : Int} {sr of cl la : Nat → Int} (h : Ns w wr B n k now period eps back sr of cl la) :
    Ns w ((((wr.setCell ⟨B + 1, k, none⟩ (.pointer (some ⟨wr.heap.size + 1, 0, none⟩))).setCell ⟨B + 2, k, none⟩ (.int .i64 (la k))).alloc (.cells #[.int .i64 (sr k)] 37)).alloc (.cells (clkCells wr.heap.size (of k) (cl k)) 62)) B n (k + 1) now period eps back sr of cl la := by
  have hs := h.size
  obtain ⟨w2, hw2⟩ : ∃ w2, w2 = (wr.setCell ⟨B + 1, k, none⟩ (.pointer (some ⟨wr.heap.size + 1, 0, none⟩))).setCell ⟨B + 2, k, none⟩ (.int .i64 (la k)) := ⟨_, rfl⟩
  have hz : w2.heap.size = wr.heap.size := by rw [hw2]; simp [World.setCell]
  have o1 : ∀ (W : World) (v : Value) j, j ≠ B + 1 → (W.setCell ⟨B + 1, k, none⟩ v).heap[j]? = W.heap[j]? := fun W v j hj => Below.heap_setCell _ _ _ _ hj
  have o2 : ∀ (W : World) (v : Value) j, j ≠ B + 2 → (W.setCell ⟨B + 2, k, none⟩ v).heap[j]? = W.heap[j]? := fun W v j hj => Below.heap_setCell _ _ _ _ hj
  have hb : Below B w w2 := by rw [hw2]; exact (h.below.setCell (by simp) _).setCell (by simp) _
  have hsame : ∀ j, j ≠ B + 1 → j ≠ B + 2 → w2.heap[j]? = wr.heap[j]? := fun j h1 h2 => by rw [hw2, o2 _ _ _ h2, o1 _ _ _ h1]
  have hp : w2.heap[B + 1]? = some (.cells (ptrsTo B n (k + 1)) 52 (0, 0)) := by
    rw [hw2, o2 _ _ _ (by omega), setCell_own _ (B + 1) k (ptrsTo B n k) 52 _ h.ptr, show wr.heap.size + 1 = B + 5 + 2 * k by omega, ptrsTo_set]
  have hl : w2.heap[B + 2]? = some (.cells (row n (mixf (k + 1) la (fun _ => 0))) 37 (0, 0)) := by
    rw [hw2, setCell_own _ (B + 2) k _ 37 _ (by rw [o1 _ _ _ (by omega)]; exact h.last), row_set, mixf_upd]
  rw [← hw2]
  clear hw2
  have hold : ∀ j, j < wr.heap.size → ((w2.alloc (.cells #[.int .i64 (sr k)] 37)).alloc (.cells (clkCells wr.heap.size (of k) (cl k)) 62)).heap[j]? = w2.heap[j]? := fun j hj => by
    show ((w2.heap.push _).push _)[j]? = _
    rw [push_get _ _ _ (by simp; omega), push_get _ _ _ (by omega)]
  refine ⟨?_, ?_, ?_, ?_, ?_, ?_, ?_, ?_⟩
  · exact (hb.alloc (by omega) _).alloc (by simp; omega) _
  · simp; omega
  · rw [hold _ (by omega), hsame _ (by omega) (by omega)]; exact h.sim
  · rw [hold _ (by omega)]; exact hp
  · rw [hold _ (by omega)]; exact hl
  · rw [hold _ (by omega), hsame _ (by omega) (by omega)]; exact h.reads
  · intro i hi
    by_cases e : i = k
    · subst e
      show ((w2.heap.push _).push _)[_]? = _
      rw [push_get _ _ _ (by simp; omega), push_new _ _ _ (by omega)]
    · rw [hold _ (by omega), hsame _ (by omega) (by omega)]; exact h.var i (by omega)
  · intro i hi
    by_cases e : i = k
    · subst e
      show ((w2.heap.push _).push _)[_]? = _
      rw [push_new _ _ _ (by simp; omega), show wr.heap.size = B + 4 + 2 * i by omega]
    · rw [hold _ (by omega), hsame _ (by omega) (by omega)]; exact h.clk i (by omega)

theorem Ns.alike {w wr wr' : World} {B n k : Nat} {now period eps back : Int} {sr of cl la : Nat → Int} (h : Ns w wr B n k now period eps back sr of cl la) (e1 : wr'.heap = wr.heap) (e2 : wr'.os = wr.os) (e3 : wr'.tape = wr.tape) (e4 : wr'.output = wr.output) : Ns w wr' B n k now period eps back sr of cl la :=
  ⟨⟨e2.trans h.below.os, e3.trans h.below.tape, e4.trans h.below.output, by rw [e1]; exact h.below.size, fun k hk => by rw [e1]; exact h.below.block k hk⟩, by rw [e1]; exact h.size, by rw [e1]; exact h.sim, by rw [e1]; exact h.ptr, by rw [e1]; exact h.last, by rw [e1]; exact h.reads, fun i hi => by rw [e1]; exact h.var i hi, fun i hi => by rw [e1]; exact h.clk i hi⟩

theorem Ns.st {w wr : World} {B n : Nat} {now period eps back : Int} {sr of cl la : Nat → Int} (h : Ns w wr B n n now period eps back sr of cl la) : St wr B n now period eps back sr of cl la (fun _ => 0) :=
  ⟨h.sim, by rw [h.ptr, ptrsTo_full], by rw [h.last, row_congr n _ la (fun i hi => by simp [mixf, hi])], h.reads, h.var, h.clk⟩

set_option maxRecDepth 20000 in
set_option maxHeartbeats 2000000 in
theorem new_any (now period eps back : Int) (n b4 b5 b6 b7 : Nat) (f4 f5 f6 f7 : Nat → Int) (w : World) (hn : n ≤ 4096)
    (h4 : b4 < w.heap.size) (h5 : b5 < w.heap.size) (h6 : b6 < w.heap.size) (h7 : b7 < w.heap.size)
    (r4 : ∀ i, i < n → w.cell? ⟨b4, i, none⟩ = some (.int .i64 (f4 i))) (r5 : ∀ i, i < n → w.cell? ⟨b5, i, none⟩ = some (.int .i64 (f5 i)))
    (r6 : ∀ i, i < n → w.cell? ⟨b6, i, none⟩ = some (.int .i64 (f6 i))) (r7 : ∀ i, i < n → w.cell? ⟨b7, i, none⟩ = some (.int .i64 (f7 i))) :
    Calls Try.prog 11 #[.int .i64 now, .int .i64 period, .int .i64 eps, .int .i64 back, .slice (some ⟨b4, 0, none⟩) n n, .slice (some ⟨b5, 0, none⟩) n n, .slice (some ⟨b6, 0, none⟩) n n, .slice (some ⟨b7, 0, none⟩) n n] w
      fun e w' => e = .returned (.pointer (some ⟨w.heap.size, 0, none⟩)) ∧ St w' w.heap.size n now period eps back f4 f5 f6 f7 (fun _ => 0) ∧ Below w.heap.size w w' ∧ w'.heap.size = w.heap.size + 4 + 2 * n := by
  have m46 := make46 w.heap.size n hn
  have m45 := make45 n hn
  go_enter Try.func11, Try.ntmps11
  go_wp2
  clear m46 m45
  go_loopw [19] (fun i wr => ∃ k : Nat, k ≤ n ∧ i = .int .i64 k ∧ Ns w wr w.heap.size n k now period eps back f4 f5 f6 f7) (fun i _ => n - (intOf i).toNat)
  case atStart => exact ⟨0, Nat.zero_le _, rfl, ns_start w n now period eps back f4 f5 f6 f7⟩
  case round =>
    obtain ⟨k, hk, rfl, hs⟩ := hrel
    by_cases hlt : k < n
    · have d4 := (hs.below.cell (p := ⟨b4, k, none⟩) h4).trans (r4 k hlt)
      have d5 := (hs.below.cell (p := ⟨b5, k, none⟩) h5).trans (r5 k hlt)
      have d6 := (hs.below.cell (p := ⟨b6, k, none⟩) h6).trans (r6 k hlt)
      have d7 := (hs.below.cell (p := ⟨b7, k, none⟩) h7).trans (r7 k hlt)
      have c15 : wr.cell? ⟨w.heap.size, 15, none⟩ = some (.slice (some ⟨w.heap.size + 1, 0, none⟩) n n) := cell_blk hs.sim 15
      have c16 : wr.cell? ⟨w.heap.size, 16, none⟩ = some (.slice (some ⟨w.heap.size + 2, 0, none⟩) n n) := cell_blk hs.sim 16
      have z0 : w.heap.size < wr.heap.size := blk_lt hs.sim
      have z1 : w.heap.size + 1 < wr.heap.size := blk_lt hs.ptr
      have z2 : w.heap.size + 2 < wr.heap.size := blk_lt hs.last
      have HS : Hid _ := ns_step hs
      have g1 : ∃ v, wr.cell? ⟨w.heap.size + 1, k, none⟩ = some v := ⟨_, (cell_blk hs.ptr k).trans (by simp [ptrsTo, hlt]; rfl)⟩
      have e1 := free_blk hs.ptr k
      have g2 := (cell_blk hs.last k).trans (row_get n _ k hlt)
      have e2 := free_blk hs.last k
      clear hs r4 r5 r6 r7
      obtain ⟨v1, g1⟩ := g1
      have y5 : b5 < wr.heap.size := by omega
      have y6 : b6 < wr.heap.size := by omega
      have y7 : b7 < wr.heap.size := by omega
      go_wp2
      go_region
      go_wp2
      go_region
      go_wp2
      go_roundw
      case rel => exact ⟨k + 1, hlt, by go_num, HS.out.alike rfl rfl rfl rfl⟩
      case measure => simp [intOf]; omega
    · obtain rfl : k = n := by omega
      have HS : Hid _ := hs
      clear hs r4 r5 r6 r7
      go_wp2
      go_ret
      exact ⟨rfl, HS.out.st, HS.out.below, HS.out.size⟩
end Go.Proofs.Qxb6613595a
