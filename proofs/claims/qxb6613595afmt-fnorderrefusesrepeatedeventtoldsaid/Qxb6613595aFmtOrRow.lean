import Derived.Test.Qxb6613595aFmtOrNum
import Derived.Laws.MakeOwn
namespace Go.Proofs.Qxb6613595aFmt
open Go.RowKit Go.Maps

/-- A row of cells. -/
def mkR (n : Nat) (f : Nat → Value) : Array Value := (Array.range n).map f
def Row (w : World) (g n : Nat) (t : TypeId) (f : Nat → Value) : Prop := w.heap[g]? = some (.cells (mkR n f) t (0, 0))
def upd (f : Nat → Value) (i : Nat) (v : Value) : Nat → Value := fun j => if j = i then v else f j
theorem upd_same (f : Nat → Value) (i : Nat) (v : Value) : upd f i v i = v := by simp [upd]
theorem upd_other (f : Nat → Value) (i j : Nat) (v : Value) (h : j ≠ i) : upd f i v j = f j := by simp [upd, h]
theorem mkR_get (n : Nat) (f : Nat → Value) (i : Nat) (h : i < n) : (mkR n f)[i]? = some (f i) := by simp [mkR, h]
theorem mkR_set (n : Nat) (f : Nat → Value) (i : Nat) (v : Value) : (mkR n f).setIfInBounds i v = mkR n (upd f i v) := by
  apply Array.ext_getElem?
  intro j
  rw [Array.getElem?_setIfInBounds]
  by_cases hj : j < n
  · rw [mkR_get n _ j hj, mkR_get n _ j hj]
    by_cases hij : i = j
    · subst hij; simp [mkR, hj, upd]
    · rw [if_neg hij, upd_other _ _ _ _ (Ne.symm hij)]
  · have h1 : (mkR n f)[j]? = none := Array.getElem?_eq_none (by simp [mkR]; omega)
    have h2 : (mkR n (upd f i v))[j]? = none := Array.getElem?_eq_none (by simp [mkR]; omega)
    rw [h1, h2]
    by_cases hij : i = j
    · subst hij; rw [if_pos rfl, if_neg (by simp [mkR]; omega)]
    · rw [if_neg hij]
theorem Row.cell {w : World} {g n : Nat} {t : TypeId} {f : Nat → Value} (h : Row w g n t f) (i : Nat) (hi : i < n) : w.cell? ⟨g, i, none⟩ = some (f i) := by rw [cell_blk h, mkR_get n f i hi]
theorem Row.free {w : World} {g n : Nat} {t : TypeId} {f : Nat → Value} (h : Row w g n t f) (i : Nat) : w.frozen? ⟨g, i, none⟩ = false := free_blk h i
theorem Row.lt {w : World} {g n : Nat} {t : TypeId} {f : Nat → Value} (h : Row w g n t f) : g < w.heap.size := blk_lt h
theorem Row.set {w : World} {g n : Nat} {t : TypeId} {f : Nat → Value} (h : Row w g n t f) (i : Nat) (v : Value) : Row (w.setCell ⟨g, i, none⟩ v) g n t (upd f i v) := by
  unfold Row
  rw [set_blk _ _ _ _ _ _ h, mkR_set]
theorem Row.same {w w' : World} {g n : Nat} {t : TypeId} {f : Nat → Value} (h : Row w g n t f) (hb : w'.heap[g]? = w.heap[g]?) : Row w' g n t f := hb.trans h
theorem Row.other {w : World} {g n : Nat} {t : TypeId} {f : Nat → Value} (h : Row w g n t f) {a : Addr} (v : Value) (hne : g ≠ a.block) : Row (w.setCell a v) g n t f := (Below.heap_setCell w a v g hne).trans h
theorem Row.alloc {w : World} {g n : Nat} {t : TypeId} {f : Nat → Value} (h : Row w g n t f) (o : Obj) : Row (w.alloc o) g n t f := alloc_blk h o
theorem Row.grown {w w' : World} {g n : Nat} {t : TypeId} {f : Nat → Value} {r : Option Nat} (h : Row w g n t f) (hg : w.grownBy w' r) (hne : some g ≠ r) : Row w' g n t f := (hg.block g h.lt hne).trans h
theorem Row.below {w w' : World} {g n : Nat} {t : TypeId} {f : Nat → Value} {B : Nat} (h : Row w g n t f) (hb : Below B w w') (hB : g < B) : Row w' g n t f := (hb.block g hB).trans h

theorem made1 (z : Value) (n : Nat) : madeCells #[z] n = mkR n (fun _ => z) := by
  apply Array.ext_getElem?
  intro j
  by_cases hj : j < n
  · rw [mkR_get n _ j hj]; simp [madeCells, hj, Nat.mod_one]
  · rw [Array.getElem?_eq_none (by simp [madeCells]; omega), Array.getElem?_eq_none (by simp [mkR]; omega)]
theorem made2 (z : Value) (n : Nat) : madeCells #[z, z] n = mkR n (fun _ => z) := by
  apply Array.ext_getElem?
  intro j
  by_cases hj : j < n
  · rw [mkR_get n _ j hj]
    rcases Nat.mod_two_eq_zero_or_one j with e | e <;> simp [madeCells, hj, e]
  · rw [Array.getElem?_eq_none (by simp [madeCells]; omega), Array.getElem?_eq_none (by simp [mkR]; omega)]

theorem i45 : (Tryf.prog.info? 45).map (fun i => (i.zero, i.size, i.bytes)) = some (some (.slice none 0 0), 1, 24) := by kernel_rfl
theorem i3 : (Tryf.prog.info? 3).map (fun i => (i.zero, i.size, i.bytes)) = some (some (.int .i64 0), 1, 8) := by kernel_rfl
theorem i42 : (Tryf.prog.info? 42).map (fun i => (i.zero, i.size, i.bytes)) = some (some (.int .u64 0), 1, 8) := by kernel_rfl
theorem i9 : (Tryf.prog.info? 9).map (fun i => (i.zero, i.size, i.bytes)) = some (some (.string ⟨#[]⟩), 1, 16) := by kernel_rfl
theorem i67 : (Tryf.prog.info? 67).map (fun i => (i.zero, i.size, i.bytes)) = some (some (.agg #[.int .u64 0, .int .u64 0]), 2, 16) := by kernel_rfl

theorem make1 {T e : TypeId} {z : Value} {by' : Nat} (hu : Tryf.prog.underlying T = some (.slice e)) (hi : (Tryf.prog.info? e).map (fun i => (i.zero, i.size, i.bytes)) = some (some z, 1, by')) (hz : z.cells = #[z]) (hby : by' ≤ 64) (n : Nat) (hn : n ≤ 1048577) (w : World) :
    Sem.run Tryf.prog (Instr.makeSlice T (.int .i64 n) (.int .i64 n)) w = .ok (.slice (some ⟨w.heap.size, 0, none⟩) n n) (w.alloc (.cells (mkR n (fun _ => z)) e)) := by
  obtain ⟨i, h1, h2, h3, h4⟩ := info_parts hi
  have hm : i.bytes * n ≤ 64 * 1048577 := Nat.mul_le_mul (by rw [h4]; exact hby) hn
  have hm2 : (i.bytes : Int) * (n : Int) ≤ 281474976710656 := by
    have : ((i.bytes * n : Nat) : Int) ≤ 64 * 1048577 := by omega
    rw [← Int.natCast_mul]; omega
  have h := run_make (P := Tryf.prog) w T e i z hu h1 h2 .i64 .i64 n n (by omega) (Int.le_refl _) hm2 (by omega)
  rw [h3] at h
  simp only [Int.toNat_natCast, hz, Nat.mul_one] at h
  rw [← made1]
  exact h
theorem make2 (n : Nat) (hn : n ≤ 1048577) (w : World) :
    Sem.run Tryf.prog (Instr.makeSlice 70 (.int .i64 n) (.int .i64 n)) w = .ok (.slice (some ⟨w.heap.size, 0, none⟩) n n) (w.alloc (.cells (mkR (n * 2) (fun _ => .int .u64 0)) 67)) := by
  obtain ⟨i, h1, h2, h3, h4⟩ := info_parts i67
  have h := run_make (P := Tryf.prog) w 70 67 i _ Tryf.underlying70 h1 h2 .i64 .i64 n n (by omega) (Int.le_refl _) (by rw [h4]; omega) (by omega)
  rw [h3] at h
  simp only [Int.toNat_natCast, Value.cells] at h
  rw [← made2]
  exact h
end Go.Proofs.Qxb6613595aFmt
