import Derived.Test.Qxb6613595aFmtOrGet
import Derived.Test.Qxb6613595aFmtOrCmp
namespace Go.Proofs.Qxb6613595aFmt
open Go.RowKit

theorem cell_blk {w : World} {b : Nat} {c : Array Value} {E : TypeId} (h : w.heap[b]? = some (.cells c E (0, 0))) (o : Nat) : w.cell? ⟨b, o, none⟩ = c[o]? := by
  unfold World.cell?
  rw [h]
  simp
theorem free_blk {w : World} {b : Nat} {c : Array Value} {E : TypeId} (h : w.heap[b]? = some (.cells c E (0, 0))) (o : Nat) : w.frozen? ⟨b, o, none⟩ = false := by
  unfold World.frozen?
  rw [h]
  simp
theorem blk_lt {w : World} {b : Nat} {o : Obj} (h : w.heap[b]? = some o) : b < w.heap.size := (Array.getElem?_eq_some_iff.1 h).1

theorem set_blk (w : World) (b o : Nat) (c : Array Value) (E : TypeId) (v : Value) (h : w.heap[b]? = some (.cells c E (0, 0))) :
    (w.setCell ⟨b, o, none⟩ v).heap[b]? = some (.cells (c.setIfInBounds o v) E (0, 0)) := by
  simp [World.setCell, Array.getElem?_modify, h]
theorem alloc_blk {w : World} {b : Nat} {x : Obj} (h : w.heap[b]? = some x) (o : Obj) : (w.alloc o).heap[b]? = some x := (Below.heap_alloc w o b (blk_lt h)).trans h
theorem wrap_nat (z : Int) : ∃ m : Nat, IntKind.u64.wrap z = (m : Int) := by
  refine ⟨(IntKind.u64.wrap z).toNat, ?_⟩
  rw [Int.toNat_of_nonneg]
  simp [IntKind.wrap, IntKind.bits, IntKind.signed]
  omega

set_option maxRecDepth 20000 in
set_option maxHeartbeats 1600000 in
theorem weigh_any (b n cp : Nat) (E : Nat → ByteArray × Nat) (w : World) (hE : RdE w b n E) (hn : n < 1048577) (hb : n = 0 ∨ b < w.heap.size) :
    Calls Tryf.prog 34 #[.agg #[.slice (some ⟨b, 0, none⟩) n cp]] w fun e w' => (∃ x y : Nat, e = .returned (.agg #[.int .u64 x, .int .u64 y])) ∧ Below w.heap.size w w' := by
  have HE : Hid (RdE w b n E) := hE
  clear hE
  go_enter Tryf.func34, Tryf.ntmps34
  go_wp2
  go_loopg [10] n (fun k s10 wr => ∃ i x y : Nat, s10 = .int .i64 i ∧ i ≤ n ∧ n - i ≤ k ∧ Hid (Below w.heap.size w wr ∧ wr.heap[w.heap.size + 2]? = some (.cells #[.int .u64 x, .int .u64 y] 67 (0, 0)) ∧ wr.heap[w.heap.size + 1]? = some (.cells #[.int .u64 0, .int .u64 0] 67 (0, 0))))
  case atStart =>
    refine ⟨0, 0, 0, rfl, by omega, by omega, (((Below.refl _ w).alloc (Nat.le_refl _) _).alloc (by simp) _).alloc (by simp; omega) _, ?_, ?_⟩
    · have := heap_alloc_new ((w.alloc (.cells #[.slice (some ⟨b, 0, none⟩) n cp] 29)).alloc (.cells #[.int .u64 0, .int .u64 0] 67)) (.cells #[.int .u64 0, .int .u64 0] 67)
      simpa using this
    · refine alloc_blk ?_ _
      have := heap_alloc_new (w.alloc (.cells #[.slice (some ⟨b, 0, none⟩) n cp] 29)) (.cells #[.int .u64 0, .int .u64 0] 67)
      simpa using this
  case round =>
    obtain ⟨i, x, y, rfl, h1, h2, hB⟩ := hrel
    by_cases hlt : i < n
    · obtain ⟨c1, c2⟩ := RdE.below HE.out hB.out.1 hb i hlt
      have d0 := cell_blk hB.out.2.1 0
      have d1 := cell_blk hB.out.2.1 1
      have f0 := free_blk hB.out.2.1 0
      have f1 := free_blk hB.out.2.1 1
      simp at d0 d1
      have hs : w.heap.size + 2 < wr.heap.size := blk_lt hB.out.2.1
      go_wp2
      obtain ⟨m, hm⟩ := wrap_nat ((x : Int) + ((y : Int) + (E i).2) / 18446744073709551616)
      obtain ⟨m2, hm2⟩ : ∃ m : Nat, ((y : Int) + (E i).2) % 18446744073709551616 = m := ⟨(y + (E i).2) % 18446744073709551616, by omega⟩
      rw [hm, hm2]
      go_roundg (n - (i + 1))
      case measure => omega
      case rel =>
        obtain ⟨hb1, hb2, hb3⟩ := hB.out
        refine ⟨i + 1, m, m2, by rw [show (i : Int) + 1 = ((i + 1 : Nat) : Int) by omega], by omega, Nat.le_refl _, ((hb1.setCell (p := ⟨w.heap.size + 1 + 1, 1, none⟩) (by simp; omega) _).setCell (p := ⟨w.heap.size + 1 + 1, 0, none⟩) (by simp; omega) _).alloc (by simp [World.setCell]; omega) _, ?_, ?_⟩
        · exact alloc_blk (set_blk _ _ _ _ _ _ (set_blk _ _ _ _ _ _ hb2)) _
        · refine alloc_blk ?_ _
          rw [Below.heap_setCell _ _ _ _ (by simp), Below.heap_setCell _ _ _ _ (by simp)]
          exact hb3
    · obtain rfl : i = n := by omega
      have d0 := cell_blk hB.out.2.1 0
      have d1 := cell_blk hB.out.2.1 1
      have e0 := cell_blk hB.out.2.2 0
      have e1 := cell_blk hB.out.2.2 1
      have f0 := free_blk hB.out.2.2 0
      have f1 := free_blk hB.out.2.2 1
      simp at d0 d1 e0 e1
      go_wp2
      have hr : ((wr.setCell ⟨w.heap.size + 1, 0, none⟩ (.int .u64 x)).setCell ⟨w.heap.size + 1, 1, none⟩ (.int .u64 y)).heap[w.heap.size + 1]? = some (.cells #[.int .u64 x, .int .u64 y] 67 (0, 0)) := set_blk _ _ _ _ _ _ (set_blk _ _ _ _ _ _ hB.out.2.2)
      refine bodyPost_ret (results_cell_row rfl _ _ (w.heap.size + 1) 67 _ (0, 0) _ rfl hr Tryf.underlying67 rfl (by kernel_rfl)) rfl ?_
      exact ⟨⟨x, y, rfl⟩, (hB.out.1.setCell (p := ⟨w.heap.size + 1, 0, none⟩) (by simp) _).setCell (p := ⟨w.heap.size + 1, 1, none⟩) (by simp) _⟩
end Go.Proofs.Qxb6613595aFmt
