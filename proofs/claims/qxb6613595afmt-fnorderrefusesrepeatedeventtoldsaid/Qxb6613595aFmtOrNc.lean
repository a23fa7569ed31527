import Derived.Test.Qxb6613595aFmtOrAp2
namespace Go.Proofs.Qxb6613595aFmt
open Go.RowKit Go.Maps Go.Extern.Stop Go.Stop Go.Extern
attribute [local go_sem ↓] Go.wp_at_zero Go.wp_at_succ
set_option linter.unusedVariables false

theorem makeH {T e : TypeId} {z : Value} {by' : Nat} (hu : Tryf.prog.underlying T = some (.slice e)) (hi : (Tryf.prog.info? e).map (fun i => (i.zero, i.size, i.bytes)) = some (some z, 1, by')) (hz : z.cells = #[z]) (hby : by' ≤ 64) (n : Nat) (hn : n ≤ 2097152) (w : World) :
    Sem.run Tryf.prog (Instr.makeSlice T (.int .i64 n) (.int .i64 n)) w = .ok (.slice (some ⟨w.heap.size, 0, none⟩) n n) (w.alloc (.cells (mkR n (fun _ => z)) e)) := by
  obtain ⟨i, h1, h2, h3, h4⟩ := info_parts hi
  have hm : i.bytes * n ≤ 64 * 2097152 := Nat.mul_le_mul (by rw [h4]; exact hby) hn
  have hm2 : (i.bytes : Int) * (n : Int) ≤ 281474976710656 := by
    have : ((i.bytes * n : Nat) : Int) ≤ 64 * 2097152 := by omega
    rw [← Int.natCast_mul]; omega
  have h := run_make (P := Tryf.prog) w T e i z hu h1 h2 .i64 .i64 n n (by omega) (Int.le_refl _) hm2 (by omega)
  rw [h3] at h
  simp only [Int.toNat_natCast, hz, Nat.mul_one] at h
  rw [← made1]
  exact h

/-- The causal check's box: its three rows. -/
structure Cc (B H : Nat) (cB gK ga gv : Nat) (r : Nat) (nm : Value) (w : World) : Prop where
  box : w.heap[cB]? = some (.cells #[.int .i64 (r : Nat), .slice (some ⟨gK, 0, none⟩) H H, .slice (some ⟨ga, 0, none⟩) H H, .slice (some ⟨gv, 0, none⟩) H H, nm] 104 (0, 0))
  k : Nums w gK H 42 .u64
  a : Nums w ga H 3 .i64
  v : Nums w gv H 3 .i64
  ge : B ≤ cB ∧ B ≤ gK ∧ B ≤ ga ∧ B ≤ gv
  ne : gK ≠ ga ∧ gK ≠ gv ∧ ga ≠ gv ∧ cB ≠ gK ∧ cB ≠ ga ∧ cB ≠ gv

theorem nums0 {w : World} {g n : Nat} {t : TypeId} {q : IntKind} (h : Row w g n t (fun _ => .int q 0)) : Nums w g n t q := ⟨fun _ => 0, h⟩

theorem a4 (w : World) (o0 o1 o2 o3 : Obj) : ((((w.alloc o0).alloc o1).alloc o2).alloc o3).drew.heap[w.heap.size]? = some o0 ∧ ((((w.alloc o0).alloc o1).alloc o2).alloc o3).drew.heap[w.heap.size + 1]? = some o1 ∧ ((((w.alloc o0).alloc o1).alloc o2).alloc o3).drew.heap[w.heap.size + 1 + 1]? = some o2 ∧ ((((w.alloc o0).alloc o1).alloc o2).alloc o3).drew.heap[w.heap.size + 1 + 1 + 1]? = some o3 := by
  have s1 : (w.alloc o0).heap.size = w.heap.size + 1 := by simp
  have s2 : ((w.alloc o0).alloc o1).heap.size = w.heap.size + 1 + 1 := by simp
  have s3 : (((w.alloc o0).alloc o1).alloc o2).heap.size = w.heap.size + 1 + 1 + 1 := by simp
  refine ⟨alloc_blk (alloc_blk (alloc_blk (heap_alloc_new w o0) _) _) _, ?_, ?_, ?_⟩
  · rw [← s1]; exact alloc_blk (alloc_blk (heap_alloc_new _ o1) _) _
  · rw [← s2]; exact alloc_blk (heap_alloc_new _ o2) _
  · rw [← s3]; exact heap_alloc_new _ o3

set_option maxHeartbeats 4000000 in
theorem newcc_any (H : Nat) (w : World) (hH : H ≤ 2097152) :
    Calls Tryf.prog 21 #[.int .i64 (H : Int)] w fun e w' => Below w.heap.size w w' ∧ ∃ cB gK ga gv, e = .returned (.pointer (some ⟨cB, 0, none⟩)) ∧ Cc w.heap.size H cB gK ga gv 0 (.slice none 0 0) w' := by
  have m1 := fun w : World => makeH Tryf.underlying34 i42 rfl (by omega) H hH w
  have m2 := fun w : World => makeH Tryf.underlying45 i3 rfl (by omega) H hH w
  go_enter Tryf.func21, Tryf.ntmps21
  go_wp2_with fail
  go_region_held3 (fun w' => (Instr.makeSlice 34 (.int .i64 (H : Int)) (.int .i64 (H : Int))).run Tryf.prog w' = .ok (.slice (some ⟨w'.heap.size, 0, none⟩) H H) (w'.alloc (.cells (mkR H (fun _ => .int .u64 0)) 42)) ∧ (Instr.makeSlice 45 (.int .i64 (H : Int)) (.int .i64 (H : Int))).run Tryf.prog w' = .ok (.slice (some ⟨w'.heap.size, 0, none⟩) H H) (w'.alloc (.cells (mkR H (fun _ => .int .i64 0)) 3))) (first | go_keep | exact ⟨m1 _, m2 _⟩) (fail)
  all_goals
    clear m1 m2
    rename_i Kk ak hH2
    clear hH2
    go_wp2_with fail
    go_ret
    refine ⟨((((Below.refl _ w).alloc (Nat.le_refl _) _).alloc (by simp) _).alloc (by simp; omega) _).alloc (by simp; omega) _ |>.drew, w.heap.size + 1 + 1 + 1, _, _, _, rfl, (a4 w _ _ _ _).2.2.2, ?_, ?_, ?_, ⟨by omega, by omega, by omega, by omega⟩, ⟨by omega, by omega, by omega, by omega, by omega, by omega⟩⟩
    all_goals first | exact nums0 (a4 w _ _ _ _).1 | exact nums0 (a4 w _ _ _ _).2.1 | exact nums0 (a4 w _ _ _ _).2.2.1
end Go.Proofs.Qxb6613595aFmt
