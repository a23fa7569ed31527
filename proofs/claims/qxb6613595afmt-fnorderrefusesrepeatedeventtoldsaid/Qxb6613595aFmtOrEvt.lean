import Derived.Test.Qxb6613595aFmtOrOwn
namespace Go.Proofs.Qxb6613595aFmt
open Go.RowKit Go.Maps
attribute [local go_sem ↓] Go.wp_at_zero Go.wp_at_succ
set_option linter.unusedVariables false

theorem below_drewN {B : Nat} {w w' : World} (h : Below B w w') (k : Nat) : Below B w (w'.drewN k) := ⟨h.os, h.tape, h.output, h.size, h.block⟩
set_option maxRecDepth 20000 in
set_option maxHeartbeats 8000000 in
theorem event_any (B evB N C : Nat) (ev : Nat → Ev) (D : IxD) (w : World) (hI : Idx B evB N C ev D w) (hB : B ≤ w.heap.size) (h n : Nat) (hh : h < D.H) (hn : n < 18446744073709551616) :
    ∃ (j : Nat) (b : Bool), (b = true → j < N) ∧ Calls Tryf.prog 26 #[.pointer (some ⟨D.A.x, 0, none⟩), .agg #[.int .i64 (h : Nat), .int .u64 (n : Nat)]] w fun e w' => Below w.heap.size w w' ∧ e = .returned (.tuple #[.int .i64 (j : Nat), .bool b]) := by
  have hH := hI.nH
  obtain ⟨kl, hkl⟩ := kvP_key (h, n) (by simp only; omega) hn
  have HB : Hid (∀ W' : World, Below w.heap.size w W' → Idx B evB N C ev D W') := fun W' hb => hI.below (hb.mono hB)
  have HKL : Hid (keyOf Tryf.prog 88 (kvP (h, n)) = some kl) := hkl
  by_cases hm : (h, n) ∈ D.Ks
  · obtain ⟨j, hj⟩ : ∃ v, ix D.Ks (h, n) = v := ⟨_, rfl⟩
    have hjN : j < N := by rw [← hj, ← hI.klen]; exact ix_lt hm
    refine ⟨j, decide (D.T j < 0), fun _ => hjN, ?_⟩
    clear hI hkl
    go_enter Tryf.func26, Tryf.ntmps26
    go_wp2_with fail
    obtain ⟨W1, hW1⟩ : ∃ W1, w.alloc (Obj.cells #[Value.int IntKind.i64 (h : Int), Value.int IntKind.u64 (n : Int)] 88) = W1 := ⟨_, rfl⟩
    have B1 : Hid (Below w.heap.size w W1) := by rw [← hW1]; exact (Below.refl _ w).alloc (Nat.le_refl _) _
    have hb0 : W1.heap[w.heap.size]? = some (.cells #[.int .i64 (h : Int), .int .u64 (n : Int)] 88 (0, 0)) := by rw [← hW1]; exact heap_alloc_new w _
    have p0 : W1.cell? ⟨w.heap.size, 0, none⟩ = some (.int .i64 (h : Int)) := cell_blk hb0 0
    have p1 : W1.cell? ⟨w.heap.size, 1, none⟩ = some (.int .u64 (n : Int)) := cell_blk hb0 1
    rw [hW1]
    clear hW1 hb0
    have I1 := HB.out W1 B1.out
    have p6 : W1.cell? ⟨D.A.x, 6, none⟩ = some (.map (some D.A.f)) := cell_blk I1.box 6
    have p7 : W1.cell? ⟨D.A.x, 7, none⟩ = some (.slice (some ⟨D.A.tw, 0, none⟩) N N) := cell_blk I1.box 7
    have hr : (Instr.lookup 71 (.map (some D.A.f)) (.agg #[.int .i64 (h : Int), .int .u64 (n : Int)]) true).run Tryf.prog W1.drew = .ok (.tuple #[.int .i64 (j : Int), .bool true]) W1.drew := by
      have := (HB.out _ (B1.out.drew)).fst.hit law88 Tryf.underlying71 HKL.out hm
      rw [hj] at this
      exact this
    obtain ⟨ptw, _⟩ := I1.tw j hjN
    clear I1
    have j1 : (j : Int) < (N : Int) := by omega
    go_region_held3 (fun w' => w'.cell? ⟨D.A.x, 6, none⟩ = some (.map (some D.A.f)) ∧ w'.cell? ⟨w.heap.size, 0, none⟩ = some (.int .i64 (h : Int)) ∧ w'.cell? ⟨w.heap.size, 1, none⟩ = some (.int .u64 (n : Int)) ∧ (Instr.lookup 71 (.map (some D.A.f)) (.agg #[.int .i64 (h : Int), .int .u64 (n : Int)]) true).run Tryf.prog w' = .ok (.tuple #[.int .i64 (j : Int), .bool true]) w') (first | go_keep | exact ⟨p6, p0, p1, hr⟩) (fail)
    clear hr
    go_wp2_with fail
    go_region_held3 (fun w' => w'.cell? ⟨D.A.x, 7, none⟩ = some (.slice (some ⟨D.A.tw, 0, none⟩) N N) ∧ w'.cell? ⟨D.A.tw, j, none⟩ = some (.int .i64 (D.T j))) (first | go_keep | exact ⟨p7, ptw⟩) (fail)
    go_wp2_with fail
    go_ret2
    exact ⟨B1.out.drew.drew, rfl⟩
  · refine ⟨0, false, fun h => (by cases h), ?_⟩
    clear hI hkl
    go_enter Tryf.func26, Tryf.ntmps26
    go_wp2_with fail
    obtain ⟨W1, hW1⟩ : ∃ W1, w.alloc (Obj.cells #[Value.int IntKind.i64 (h : Int), Value.int IntKind.u64 (n : Int)] 88) = W1 := ⟨_, rfl⟩
    have B1 : Hid (Below w.heap.size w W1) := by rw [← hW1]; exact (Below.refl _ w).alloc (Nat.le_refl _) _
    have hb0 : W1.heap[w.heap.size]? = some (.cells #[.int .i64 (h : Int), .int .u64 (n : Int)] 88 (0, 0)) := by rw [← hW1]; exact heap_alloc_new w _
    have p0 : W1.cell? ⟨w.heap.size, 0, none⟩ = some (.int .i64 (h : Int)) := cell_blk hb0 0
    have p1 : W1.cell? ⟨w.heap.size, 1, none⟩ = some (.int .u64 (n : Int)) := cell_blk hb0 1
    rw [hW1]
    clear hW1 hb0
    have I1 := HB.out W1 B1.out
    have p6 : W1.cell? ⟨D.A.x, 6, none⟩ = some (.map (some D.A.f)) := cell_blk I1.box 6
    have p7 : W1.cell? ⟨D.A.x, 7, none⟩ = some (.slice (some ⟨D.A.tw, 0, none⟩) N N) := cell_blk I1.box 7
    have hr : (Instr.lookup 71 (.map (some D.A.f)) (.agg #[.int .i64 (h : Int), .int .u64 (n : Int)]) true).run Tryf.prog W1.drew = .ok (.tuple #[.int .i64 0, .bool false]) W1.drew := (HB.out _ (B1.out.drew)).fst.miss law88 Tryf.underlying71 HKL.out hm
    clear I1
    go_region_held3 (fun w' => w'.cell? ⟨D.A.x, 6, none⟩ = some (.map (some D.A.f)) ∧ w'.cell? ⟨w.heap.size, 0, none⟩ = some (.int .i64 (h : Int)) ∧ w'.cell? ⟨w.heap.size, 1, none⟩ = some (.int .u64 (n : Int)) ∧ (Instr.lookup 71 (.map (some D.A.f)) (.agg #[.int .i64 (h : Int), .int .u64 (n : Int)]) true).run Tryf.prog w' = .ok (.tuple #[.int .i64 0, .bool false]) w') (first | go_keep | exact ⟨p6, p0, p1, hr⟩) (fail)
    clear hr
    go_wp2_with fail
    go_quiet (fail)
    go_wp2_with fail
    go_ret2
    exact ⟨below_drewN B1.out.drew _, rfl⟩
end Go.Proofs.Qxb6613595aFmt
