import Derived.Test.Qxb6613595aObsClock
namespace Go.Proofs.Qxb6613595a
open Go.RowKit Go.MuLone

/-! ### Blocks of memory -/
/-- The one block b has become o; all else is as it was. -/
structure Upd (b : Nat) (o : Obj) (w w' : World) : Prop where
  os : w'.os = w.os
  tape : w'.tape = w.tape
  output : w'.output = w.output
  size : w'.heap.size = w.heap.size
  block : ∀ k, k ≠ b → w'.heap[k]? = w.heap[k]?
  own : w'.heap[b]? = some o

/-- Outside the blocks lo .. hi-1 nothing has turned. -/
structure Out (lo hi : Nat) (w w' : World) : Prop where
  os : w'.os = w.os
  tape : w'.tape = w.tape
  output : w'.output = w.output
  size : w'.heap.size = w.heap.size
  block : ∀ k, ¬ (lo ≤ k ∧ k < hi) → w'.heap[k]? = w.heap[k]?

theorem Out.refl (lo hi : Nat) (w : World) : Out lo hi w w := ⟨rfl, rfl, rfl, rfl, fun _ _ => rfl⟩
theorem Out.trans {lo hi : Nat} {a b c : World} (h : Out lo hi a b) (k : Out lo hi b c) : Out lo hi a c :=
  ⟨k.os.trans h.os, k.tape.trans h.tape, k.output.trans h.output, k.size.trans h.size, fun i hi => (k.block i hi).trans (h.block i hi)⟩
theorem Out.drew {lo hi : Nat} {a b : World} (h : Out lo hi a b) : Out lo hi a b.drew := ⟨h.os, h.tape, h.output, h.size, h.block⟩
theorem Out.of_drew {lo hi : Nat} {a b : World} (h : Out lo hi a.drew b) : Out lo hi a b := ⟨h.os, h.tape, h.output, h.size, h.block⟩
theorem Out.setCell {lo hi : Nat} {a b : World} (h : Out lo hi a b) {p : Addr} (v : Value) (h1 : lo ≤ p.block) (h2 : p.block < hi) : Out lo hi a (b.setCell p v) :=
  h.trans ⟨rfl, rfl, rfl, by simp [World.setCell], fun k hk => Below.heap_setCell _ _ _ _ (fun e => hk (by rw [e]; exact ⟨h1, h2⟩))⟩
theorem Upd.out {b lo hi : Nat} {o : Obj} {w w' : World} (h : Upd b o w w') (h1 : lo ≤ b) (h2 : b < hi) : Out lo hi w w' :=
  ⟨h.os, h.tape, h.output, h.size, fun k hk => h.block k (fun e => hk (by rw [e]; exact ⟨h1, h2⟩))⟩
theorem Out.below {lo hi B : Nat} {w w' : World} (h : Out lo hi w w') (hB : B ≤ lo) : Below B w w' :=
  ⟨h.os, h.tape, h.output, Nat.le_of_eq h.size.symm, fun k hk => h.block k (by omega)⟩

theorem setCell_own (w : World) (b o : Nat) (c : Array Value) (E : TypeId) (v : Value) (h : w.heap[b]? = some (.cells c E (0, 0))) :
    (w.setCell ⟨b, o, none⟩ v).heap[b]? = some (.cells (c.setIfInBounds o v) E (0, 0)) := by
  simp [World.setCell, Array.getElem?_modify, h]
theorem cell_blk {w : World} {b : Nat} {c : Array Value} {E : TypeId} (h : w.heap[b]? = some (.cells c E (0, 0))) (o : Nat) : w.cell? ⟨b, o, none⟩ = c[o]? := by
  simp [World.cell?, h]
theorem free_blk {w : World} {b : Nat} {c : Array Value} {E : TypeId} (h : w.heap[b]? = some (.cells c E (0, 0))) (o : Nat) : w.frozen? ⟨b, o, none⟩ = false := by
  simp [World.frozen?, h]

/-! ### The simulation in memory -/
def clkCells (v : Nat) (d l : Int) : Array Value := #[.func (.func 18) #[] #[.pointer (some ⟨v, 0, none⟩)], .int .i32 0, .int .u32 0, .int .i64 d, .int .i64 l]
def row (n : Nat) (f : Nat → Int) : Array Value := ((List.range n).map fun i => Value.int .i64 (f i)).toArray
def ptrs (B n : Nat) : Array Value := ((List.range n).map fun i => Value.pointer (some ⟨B + 5 + 2 * i, 0, none⟩)).toArray
def simCells (B n : Nat) (now period eps back : Int) : Array Value :=
  #[.int .i64 0, .float .f64 0, .int .i64 period, .int .i64 0, .int .i64 0, .int .i64 0, .int .u64 0, .bool false,
    .pointer none, .int .i64 now, .slice none 0 0, .int .u64 0, .slice none 0 0, .slice none 0 0, .slice none 0 0,
    .slice (some ⟨B + 1, 0, none⟩) n n, .slice (some ⟨B + 2, 0, none⟩) n n, .slice (some ⟨B + 3, 0, none⟩) n n, .slice none 0 0,
    .int .i64 eps, .int .i64 0, .int .i64 0, .int .i64 0, .int .i64 0, .int .i64 back]

structure St (w : World) (B n : Nat) (now period eps back : Int) (sr of cl la re : Nat → Int) : Prop where
  sim : w.heap[B]? = some (.cells (simCells B n now period eps back) 51 (0, 0))
  ptr : w.heap[B + 1]? = some (.cells (ptrs B n) 52 (0, 0))
  last : w.heap[B + 2]? = some (.cells (row n la) 37 (0, 0))
  reads : w.heap[B + 3]? = some (.cells (row n re) 37 (0, 0))
  var : ∀ i, i < n → w.heap[B + 4 + 2 * i]? = some (.cells #[.int .i64 (sr i)] 37 (0, 0))
  clk : ∀ i, i < n → w.heap[B + 5 + 2 * i]? = some (.cells (clkCells (B + 4 + 2 * i) (of i) (cl i)) 62 (0, 0))

theorem row_get (n : Nat) (f : Nat → Int) (i : Nat) (h : i < n) : (row n f)[i]? = some (.int .i64 (f i)) := by
  simp [row, h]
/-- f with r at place k -/
def upd (f : Nat → Int) (k : Nat) (r : Int) : Nat → Int := fun i => if i = k then r else f i
theorem row_set (n : Nat) (f : Nat → Int) (k : Nat) (x : Int) : (row n f).setIfInBounds k (.int .i64 x) = row n (upd f k x) := by
  apply Array.ext'
  apply List.ext_getElem
  · simp [row]
  · intro i h1 h2
    simp [row, List.getElem_set, upd, eq_comm]
    split <;> simp_all
theorem row_congr (n : Nat) (f g : Nat → Int) (h : ∀ i, i < n → f i = g i) : row n f = row n g := by
  unfold row
  congr 1
  exact List.map_congr_left fun i hi => by rw [h i (List.mem_range.1 hi)]
/-- the first k places from f, the rest from g -/
def mixf (k : Nat) (f g : Nat → Int) : Nat → Int := fun i => if i < k then f i else g i
theorem mixf_upd (k : Nat) (f g : Nat → Int) : upd (mixf k f g) k (f k) = mixf (k + 1) f g := by
  funext i
  unfold upd mixf
  by_cases h : i = k
  · subst h; rw [if_pos rfl, if_pos (by omega)]
  · rw [if_neg h]
    by_cases h2 : i < k
    · rw [if_pos h2, if_pos (by omega)]
    · rw [if_neg h2, if_neg (by omega)]
theorem mixf_zero (f g : Nat → Int) : mixf 0 f g = g := by funext i; simp [mixf]
theorem mixf_at (k : Nat) (f g : Nat → Int) : mixf k f g k = g k := by simp [mixf]
theorem ptrs_get (B n i : Nat) (h : i < n) : (ptrs B n)[i]? = some (.pointer (some ⟨B + 5 + 2 * i, 0, none⟩)) := by
  simp [ptrs, h]

theorem read_blk (b v : Nat) (t d l : Int) (w : World) (h0 : 0 ≤ t) (h1 : t ≤ mx) (h2 : 0 ≤ d) (h3 : d ≤ mx)
    (hb : w.heap[b]? = some (.cells (clkCells v d l) 62 (0, 0))) (hv : w.heap[v]? = some (.cells #[.int .i64 t] 37 (0, 0))) :
    Calls Try.prog 20 #[.pointer (some ⟨b, 0, none⟩)] w fun e w' => e = .returned (.int .i64 (rdg t d l)) ∧ Upd b (.cells (clkCells v d (rdg t d l)) 62 (0, 0)) w w' := by
  refine (read_any b v t d l w h0 h1 h2 h3 (cell_blk hb 0) (cell_blk hb 1) (cell_blk hb 3) (cell_blk hb 4) (cell_blk hv 0) (free_blk hb 1) (free_blk hb 4)).mono ?_
  rintro e w' ⟨rfl, rfl⟩
  refine ⟨rfl, rfl, rfl, rfl, by simp [World.setCell], fun k hk => ?_, ?_⟩
  · show ((((w.setCell ⟨b, 1, none⟩ (.int .i32 1)).setCell ⟨b, 4, none⟩ (.int .i64 (rdg t d l))).setCell ⟨b, 1, none⟩ (.int .i32 0))).heap[k]? = _
    rw [Below.heap_setCell _ _ _ _ hk, Below.heap_setCell _ _ _ _ hk, Below.heap_setCell _ _ _ _ hk]
  · show ((((w.setCell ⟨b, 1, none⟩ (.int .i32 1)).setCell ⟨b, 4, none⟩ (.int .i64 (rdg t d l))).setCell ⟨b, 1, none⟩ (.int .i32 0))).heap[b]? = _
    rw [setCell_own _ b 1 _ 62 _ (setCell_own _ b 4 _ 62 _ (setCell_own _ b 1 _ 62 _ hb))]
    rfl

set_option maxHeartbeats 400000 in
theorem note_any (B n k : Nat) (r l : Int) (w : World) (hk : k < n) (hr : ¬ r < l)
    (c16 : w.cell? ⟨B, 16, none⟩ = some (.slice (some ⟨B + 2, 0, none⟩) n n)) (cl : w.cell? ⟨B + 2, k, none⟩ = some (.int .i64 l)) (fl : w.frozen? ⟨B + 2, k, none⟩ = false) :
    Calls Try.prog 21 #[.pointer (some ⟨B, 0, none⟩), .int .i64 k, .int .i64 r] w fun e w' => e = .returned (.tuple #[]) ∧ w' = w.setCell ⟨B + 2, k, none⟩ (.int .i64 r) := by
  go_enter Try.func21, Try.ntmps21
  go_wp2
  go_end0
  exact ⟨rfl, rfl⟩

theorem st_step {w w1 : World} {B n k : Nat} {now period eps back r : Int} {sr of cl la re : Nat → Int} (h : St w B n now period eps back sr of cl la re) (hk : k < n)
    (hu : Upd (B + 5 + 2 * k) (.cells (clkCells (B + 4 + 2 * k) (of k) r) 62 (0, 0)) w w1) :
    St ((w1.setCell ⟨B + 3, k, none⟩ (.int .i64 r)).setCell ⟨B + 2, k, none⟩ (.int .i64 r)) B n now period eps back sr of (upd cl k r) (upd la k r) (upd re k r) := by
  have o3 : ∀ j, j ≠ B + 3 → (w1.setCell ⟨B + 3, k, none⟩ (.int .i64 r)).heap[j]? = w1.heap[j]? := fun j hj => Below.heap_setCell _ _ _ _ hj
  have o2 : ∀ j, j ≠ B + 2 → ((w1.setCell ⟨B + 3, k, none⟩ (.int .i64 r)).setCell ⟨B + 2, k, none⟩ (.int .i64 r)).heap[j]? = (w1.setCell ⟨B + 3, k, none⟩ (.int .i64 r)).heap[j]? := fun j hj => Below.heap_setCell _ _ _ _ hj
  refine ⟨?_, ?_, ?_, ?_, ?_, ?_⟩
  · rw [o2 _ (by omega), o3 _ (by omega), hu.block _ (by omega)]; exact h.sim
  · rw [o2 _ (by omega), o3 _ (by omega), hu.block _ (by omega)]; exact h.ptr
  · rw [setCell_own _ (B + 2) k (row n la) 37 _ (by rw [o3 _ (by omega), hu.block _ (by omega)]; exact h.last), row_set]
  · rw [o2 _ (by omega), setCell_own _ (B + 3) k (row n re) 37 _ (by rw [hu.block _ (by omega)]; exact h.reads), row_set]
  · intro i hi
    rw [o2 _ (by omega), o3 _ (by omega), hu.block _ (by omega)]; exact h.var i hi
  · intro i hi
    rw [o2 _ (by omega), o3 _ (by omega)]
    by_cases e : i = k
    · subst e
      rw [hu.own]
      simp [upd]
    · rw [hu.block _ (by omega), h.clk i hi]
      simp [upd, e]

/-! ### slices.Max, slices.Min -/
/-- the greatest of f 0 .. f k -/
def hi (f : Nat → Int) : Nat → Int
  | 0 => f 0
  | k + 1 => if hi f k < f (k + 1) then f (k + 1) else hi f k
/-- the least of f 0 .. f k -/
def lo (f : Nat → Int) : Nat → Int
  | 0 => f 0
  | k + 1 => if f (k + 1) < lo f k then f (k + 1) else lo f k

set_option maxHeartbeats 400000 in
theorem max_any (b n : Nat) (f : Nat → Int) (w : World) (h0 : 0 < n) (hn : n ≤ 4096) (hc : ∀ i, i < n → w.cell? ⟨b, i, none⟩ = some (.int .i64 (f i))) :
    Calls Try.prog 22 #[.slice (some ⟨b, 0, none⟩) n n] w fun e w' => e = .returned (.int .i64 (hi f (n - 1))) ∧ w' = w := by
  have hc0 := hc 0 h0
  go_enter Try.func22, Try.ntmps22
  go_wp2
  go_loop [3, 4] (fun m i => ∃ k : Nat, k + 1 ≤ n ∧ i = .int .i64 ((k + 1 : Nat) : Int) ∧ m = .int .i64 (hi f k)) (fun _ i => n - (intOf i).toNat)
  case atStart => exact ⟨0, h0, rfl, rfl⟩
  case round =>
    obtain ⟨k, hk, rfl, rfl⟩ := hrel
    by_cases hlt : k + 1 < n
    · have hck := hc (k + 1) hlt
      go_wp2
      exact ⟨⟨k + 1, hlt, by go_num, rfl⟩, by simp [intOf]; omega⟩
    · obtain rfl : n = k + 1 := by omega
      go_wp2
      go_ret
      exact ⟨rfl, rfl⟩
set_option maxHeartbeats 400000 in
theorem min_any (b n : Nat) (f : Nat → Int) (w : World) (h0 : 0 < n) (hn : n ≤ 4096) (hc : ∀ i, i < n → w.cell? ⟨b, i, none⟩ = some (.int .i64 (f i))) :
    Calls Try.prog 23 #[.slice (some ⟨b, 0, none⟩) n n] w fun e w' => e = .returned (.int .i64 (lo f (n - 1))) ∧ w' = w := by
  have hc0 := hc 0 h0
  go_enter Try.func23, Try.ntmps23
  go_wp2
  go_loop [3, 4] (fun m i => ∃ k : Nat, k + 1 ≤ n ∧ i = .int .i64 ((k + 1 : Nat) : Int) ∧ m = .int .i64 (lo f k)) (fun _ i => n - (intOf i).toNat)
  case atStart => exact ⟨0, h0, rfl, rfl⟩
  case round =>
    obtain ⟨k, hk, rfl, rfl⟩ := hrel
    by_cases hlt : k + 1 < n
    · have hck := hc (k + 1) hlt
      go_wp2
      exact ⟨⟨k + 1, hlt, by go_num, rfl⟩, by simp [intOf]; omega⟩
    · obtain rfl : n = k + 1 := by omega
      go_wp2
      go_ret
      exact ⟨rfl, rfl⟩

theorem hi_ge (f : Nat → Int) (k i : Nat) (h : i ≤ k) : f i ≤ hi f k := by
  induction k with
  | zero => obtain rfl : i = 0 := by omega
            exact Int.le_refl _
  | succ k ih =>
    simp only [hi]
    by_cases e : i = k + 1
    · subst e; split <;> omega
    · have := ih (by omega)
      split <;> omega
theorem lo_le (f : Nat → Int) (k i : Nat) (h : i ≤ k) : lo f k ≤ f i := by
  induction k with
  | zero => obtain rfl : i = 0 := by omega
            exact Int.le_refl _
  | succ k ih =>
    simp only [lo]
    by_cases e : i = k + 1
    · subst e; split <;> omega
    · have := ih (by omega)
      split <;> omega
theorem hi_mem (f : Nat → Int) (k : Nat) : ∃ i, i ≤ k ∧ hi f k = f i := by
  induction k with
  | zero => exact ⟨0, Nat.le_refl _, rfl⟩
  | succ k ih =>
    obtain ⟨i, hi1, e⟩ := ih
    simp only [hi]
    split
    · exact ⟨k + 1, Nat.le_refl _, rfl⟩
    · exact ⟨i, by omega, e⟩
theorem lo_mem (f : Nat → Int) (k : Nat) : ∃ i, i ≤ k ∧ lo f k = f i := by
  induction k with
  | zero => exact ⟨0, Nat.le_refl _, rfl⟩
  | succ k ih =>
    obtain ⟨i, hi1, e⟩ := ih
    simp only [lo]
    split
    · exact ⟨k + 1, Nat.le_refl _, rfl⟩
    · exact ⟨i, by omega, e⟩
theorem hi_congr (f g : Nat → Int) (k : Nat) (h : ∀ i, i ≤ k → f i = g i) : hi f k = hi g k := by
  induction k with
  | zero => exact h 0 (Nat.le_refl _)
  | succ k ih => simp only [hi]; rw [ih (fun i hi => h i (by omega)), h (k + 1) (Nat.le_refl _)]
theorem lo_congr (f g : Nat → Int) (k : Nat) (h : ∀ i, i ≤ k → f i = g i) : lo f k = lo g k := by
  induction k with
  | zero => exact h 0 (Nat.le_refl _)
  | succ k ih => simp only [lo]; rw [ih (fun i hi => h i (by omega)), h (k + 1) (Nat.le_refl _)]
end Go.Proofs.Qxb6613595a
