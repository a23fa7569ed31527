import Derived.Test.Qxb6608761aEmSpan
namespace Go.Proofs.Qxb6608761a
open Go.RowKit

/-! ### rows of spans -/
def cellS (S : Nat → Nat × Nat) (j : Nat) : Value := .int .i64 (((if j % 2 = 0 then (S (j / 2)).1 else (S (j / 2)).2) : Nat) : Int)
def rowS (n : Nat) (S : Nat → Nat × Nat) : Array Value := ((List.range (2 * n)).map (cellS S)).toArray
theorem rowS_size (n : Nat) (S : Nat → Nat × Nat) : (rowS n S).size = 2 * n := by simp [rowS]
theorem rowS_get (n : Nat) (S : Nat → Nat × Nat) (j : Nat) (h : j < 2 * n) : (rowS n S)[j]? = some (cellS S j) := by simp [rowS, h]
theorem cellS_even (S : Nat → Nat × Nat) (i : Nat) : cellS S (2 * i) = .int .i64 ((S i).1 : Int) := by
  unfold cellS
  rw [if_pos (by omega), show 2 * i / 2 = i by omega]
theorem cellS_odd (S : Nat → Nat × Nat) (i : Nat) : cellS S (2 * i + 1) = .int .i64 ((S i).2 : Int) := by
  unfold cellS
  rw [if_neg (by omega), show (2 * i + 1) / 2 = i by omega]
theorem rowS_fst {n i : Nat} (S : Nat → Nat × Nat) (h : i < n) : (rowS n S)[2 * i]? = some (.int .i64 ((S i).1 : Int)) := by rw [rowS_get n S _ (by omega), cellS_even]
theorem rowS_snd {n i : Nat} (S : Nat → Nat × Nat) (h : i < n) : (rowS n S)[2 * i + 1]? = some (.int .i64 ((S i).2 : Int)) := by rw [rowS_get n S _ (by omega), cellS_odd]
theorem rowS_put (n : Nat) (S : Nat → Nat × Nat) (k : Nat) (v : Nat × Nat) : ((rowS n S).setIfInBounds (2 * k) (.int .i64 (v.1 : Int))).setIfInBounds (2 * k + 1) (.int .i64 (v.2 : Int)) = rowS n (put S k v) := by
  apply Array.ext'
  apply List.ext_getElem
  · simp [rowS]
  · intro j h1 h2
    simp only [rowS, Array.toList_setIfInBounds, List.getElem_set, List.getElem_map, List.getElem_range]
    by_cases e1 : 2 * k + 1 = j
    · subst e1
      rw [if_pos rfl, cellS_odd, put_at]
    · rw [if_neg e1]
      by_cases e2 : 2 * k = j
      · subst e2
        rw [if_pos rfl, cellS_even, put_at]
      · rw [if_neg e2]
        unfold cellS
        rw [put_ne _ _ _ (by omega)]
theorem rowS_congr {n : Nat} {S T : Nat → Nat × Nat} (h : ∀ i, i < n → S i = T i) : rowS n S = rowS n T := by
  unfold rowS
  congr 1
  refine List.map_congr_left fun j hj => ?_
  unfold cellS
  rw [h (j / 2) (by have := List.mem_range.1 hj; omega)]

/-- The n spans of the slice at x read S. -/
def RdS (w : World) (x : Addr) (n : Nat) (S : Nat → Nat × Nat) : Prop := ∀ j, j < 2 * n → w.cell? (x.add j) = some (cellS S j)

theorem cell_blk {w : World} {b : Nat} {c : Array Value} {E : TypeId} (h : w.heap[b]? = some (.cells c E (0, 0))) (o : Nat) : w.cell? ⟨b, o, none⟩ = c[o]? := by
  simp [World.cell?, h]
theorem free_blk {w : World} {b : Nat} {c : Array Value} {E : TypeId} (h : w.heap[b]? = some (.cells c E (0, 0))) (o : Nat) : w.frozen? ⟨b, o, none⟩ = false := by
  simp [World.frozen?, h]
theorem setCell_own (w : World) (b o : Nat) (c : Array Value) (E : TypeId) (v : Value) (h : w.heap[b]? = some (.cells c E (0, 0))) :
    (w.setCell ⟨b, o, none⟩ v).heap[b]? = some (.cells (c.setIfInBounds o v) E (0, 0)) := by
  simp [World.setCell, Array.getElem?_modify, h]
theorem blk_lt {w : World} {b : Nat} {o : Obj} (h : w.heap[b]? = some o) : b < w.heap.size := by
  by_cases hb : b < w.heap.size
  · exact hb
  · rw [Array.getElem?_eq_none (by omega)] at h; cases h

theorem info47 : (Try.prog.info? 47).map (fun i => (i.zero, i.size, i.bytes)) = some (some (.agg #[.int .i64 0, .int .i64 0]), 2, 16) := by kernel_rfl
theorem makeS (n : Nat) (hn : n ≤ 1048576) (w : World) : Sem.run Try.prog (Instr.makeSlice 39 (.int .i64 n) (.int .i64 n)) w = .ok (.slice (some ⟨w.heap.size, 0, none⟩) n n) (w.alloc (.cells (rowS n (fun _ => (0, 0))) 47)) := by
  obtain ⟨i, hi, hzz⟩ := Option.map_eq_some_iff.1 info47
  simp only [Prod.mk.injEq] at hzz
  obtain ⟨hz, hs, hb⟩ := hzz
  have e : madeCells #[.int .i64 0, .int .i64 0] (n * 2) = rowS n (fun _ => (0, 0)) := by
    apply Array.ext'
    apply List.ext_getElem
    · simp [madeCells, rowS]; omega
    · intro j h1 h2
      simp only [madeCells, rowS, Array.toList_map, List.getElem_map, Array.toList_range, List.getElem_range, cellS]
      rcases Nat.mod_two_eq_zero_or_one j with e | e <;> simp [e]
  have h := run_make (P := Try.prog) w 39 47 i _ Try.underlying39 hi hz .i64 .i64 n n (by omega) (Int.le_refl _) (by rw [hb]; omega) (by omega)
  rw [hs] at h
  simp only [Int.toNat_natCast, Value.cells] at h
  rw [← e]
  exact h

theorem run_copyK {P : Program} (w : World) (dT sT ty elem : TypeId) (k : Nat) (g o dLen dCap : Nat) (a : Addr) (sLen sCap : Nat) (cur : Array Value) (t : TypeId) (cs : List Value)
    (hu : P.underlying dT = some (.slice elem)) (hs : (P.info? elem).map (·.size) = some k)
    (hg : w.heap[g]? = some (.cells cur t (0, 0))) (hn : cs.length = Nat.min sLen dLen * k)
    (hsrc : ∀ j v, cs[j]? = some v → w.cell? (a.add j) = some v) (hfit : o + cs.length ≤ cur.size) (h1 : ∀ v ∈ cs, v.oneCell' = true) :
    (Builtin.copy_ #[dT, sT] ty #[.slice (some ⟨g, o, none⟩) dLen dCap, .slice (some a) sLen sCap]).run P w =
      .ok (goInt (Nat.min sLen dLen)) (w.setRow g (cur.toList.take o ++ cs ++ cur.toList.drop (o + cs.length)).toArray) := by
  have hl := run_loadCells_list (P := P) w a cs hsrc
  have hst := run_storeCells_at P g o t cs 0 cur w hg (by simpa using hfit) h1
  cases hq : P.info? elem with
  | none => simp [hq] at hs
  | some i =>
    have hi : i.size = k := by simpa [hq] using hs
    rw [hn] at hl
    simp [Builtin.copy_, run_underlying hu, Builtin.lenOf, Builtin.firstCells, sizeOf, typeInfo, hq, hi, hl, hst]

theorem setRow_new (w : World) (c c' : Array Value) (E : TypeId) : (w.alloc (.cells c E)).setRow w.heap.size c' = w.alloc (.cells c' E) := by
  unfold World.setRow World.alloc
  congr 1
  apply Array.ext
  · simp
  · intro i h1 h2
    simp only [Array.getElem_modify, Array.getElem_push]
    by_cases e : w.heap.size = i
    · subst e; simp
    · rw [if_neg e]
      have hi : i < w.heap.size := by simp at h2; omega
      rw [dif_pos hi, dif_pos hi]

theorem copyS (w : World) (n c : Nat) (x : Addr) (S : Nat → Nat × Nat) (h : RdS w x n S) (ty : TypeId) :
    Sem.run Try.prog (Builtin.copy_ #[39, 39] ty #[.slice (some ⟨w.heap.size, 0, none⟩) n n, .slice (some x) n c]) (w.alloc (.cells (rowS n (fun _ => (0, 0))) 47)) = .ok (.int .i64 n) (w.alloc (.cells (rowS n S) 47)) := by
  have hsz : (rowS n S).toList.length = 2 * n := by simp [rowS]
  have h := run_copyK (P := Try.prog) (w.alloc (.cells (rowS n (fun _ => (0, 0))) 47)) 39 39 ty 47 2 w.heap.size 0 n n x n c (rowS n (fun _ => (0, 0))) 47 (rowS n S).toList Try.underlying39 (by kernel_rfl)
    (by show (w.heap.push _)[w.heap.size]? = _; simp) (by rw [hsz]; simp; omega)
    (fun i v hi => by
      have hin : i < 2 * n := by
        by_cases h : i < 2 * n
        · exact h
        · rw [List.getElem?_eq_none (by omega)] at hi; cases hi
      rw [Array.getElem?_toList, rowS_get n S i hin] at hi
      have hc := h i hin
      rw [World.cell?_alloc_lt _ _ _ (World.block_lt_of_cell? _ _ hc), hc]
      exact hi)
    (by rw [hsz, rowS_size]; omega) (fun v hv => by simp [rowS] at hv; obtain ⟨i, _, rfl⟩ := hv; rfl)
  rw [h, hsz]
  have e : (List.take 0 (rowS n fun _ => (0, 0)).toList ++ (rowS n S).toList ++ List.drop (0 + 2 * n) (rowS n fun _ => (0, 0)).toList).toArray = rowS n S := by
    rw [List.take_zero, List.nil_append, List.drop_of_length_le (by simp [rowS]), List.append_nil]
  rw [e, setRow_new]
  show Result.ok (goInt (Nat.min n n)) _ = _
  rw [show Nat.min n n = n from Nat.min_self n]
  rfl
end Go.Proofs.Qxb6608761a
