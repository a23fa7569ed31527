import Derived.Test.Qxb6613595aFmtOrLay
namespace Go.Proofs.Qxb6613595aFmt
open Go.RowKit
attribute [local go_sem ↓] Go.wp_at_zero Go.wp_at_succ
set_option linter.unusedVariables false

/-- Grown: nothing turned, the tape read on. -/
structure Gr (w w' : World) : Prop where
  below : Below w.heap.size w w'
  drawn : w.drawn ≤ w'.drawn
theorem Gr.trans {a b c : World} (h : Gr a b) (k : Gr b c) : Gr a c := ⟨h.below.trans (k.below.mono h.below.size), Nat.le_trans h.drawn k.drawn⟩
theorem Gr.drewN {a b : World} (h : Gr a b) (j : Nat) : Gr a (b.drewN j) := ⟨⟨h.below.os, h.below.tape, h.below.output, h.below.size, h.below.block⟩, Nat.le_trans h.drawn (Nat.le_add_right _ _)⟩
theorem Gr.alloc {a b : World} (h : Gr a b) (o : Obj) : Gr a (b.alloc o) := ⟨h.below.alloc h.below.size _, h.drawn⟩
theorem Gr.refl (a : World) : Gr a a := ⟨Below.refl _ _, Nat.le_refl _⟩

set_option maxRecDepth 20000 in
set_option maxHeartbeats 1600000 in
theorem compareD_any (x y : Nat × Nat) (w : World) : Calls Tryf.prog 20 #[.agg #[.int .u64 x.1, .int .u64 x.2], .agg #[.int .u64 y.1, .int .u64 y.2]] w fun e w' => e = .returned (.int .i64 (cmpW x y)) ∧ Gr w w' := by
  have H := cmp_any
  obtain ⟨x1, x2⟩ := x
  obtain ⟨y1, y2⟩ := y
  simp only
  have H2 : ∀ (g : Nat) (W : World), W.cell? ⟨g, 0, none⟩ = some (.int .i64 (cmpN x1 y1)) → W.cell? ⟨g, 1, none⟩ = some (.int .i64 (cmpN x2 y2)) → Calls Tryf.prog 29 #[.slice (some ⟨g, 0, none⟩) 2 2] W fun e w' => e = .returned (.int .i64 (cmpW (x1, x2) (y1, y2))) ∧ w' = W := fun g W h0 h1 => or_any g _ _ W h0 h1
  go_enter Tryf.func20, Tryf.ntmps20
  go_wp2_with fail
  obtain ⟨W, hW⟩ : ∃ W, (w.alloc (Obj.cells #[Value.int IntKind.u64 x1, Value.int IntKind.u64 x2] 67)).alloc (Obj.cells #[Value.int IntKind.u64 y1, Value.int IntKind.u64 y2] 67) = W := ⟨_, rfl⟩
  have G1 : Gr w W := by rw [← hW]; exact ((Gr.refl w).alloc _).alloc _
  have B1 := G1.below
  have HG1 : Hid (Gr w W) := G1
  clear G1
  have c0 : W.cell? ⟨w.heap.size, 0, none⟩ = some (.int .u64 x1) := by rw [← hW]; simp [go_sem]
  have c1 : W.cell? ⟨w.heap.size, 1, none⟩ = some (.int .u64 x2) := by rw [← hW]; simp [go_sem]
  have c2 : W.cell? ⟨w.heap.size + 1, 0, none⟩ = some (.int .u64 y1) := by rw [← hW]; simp [go_sem]
  have c3 : W.cell? ⟨w.heap.size + 1, 1, none⟩ = some (.int .u64 y2) := by rw [← hW]; simp [go_sem]
  have z : W.heap.size = w.heap.size + 2 := by rw [← hW]; simp
  rw [hW]
  clear hW
  go_region_held3 (fun w' => w'.cell? ⟨w.heap.size, 0, none⟩ = some (.int .u64 x1) ∧ w'.cell? ⟨w.heap.size, 1, none⟩ = some (.int .u64 x2) ∧ w'.cell? ⟨w.heap.size + 1, 0, none⟩ = some (.int .u64 y1) ∧ w'.cell? ⟨w.heap.size + 1, 1, none⟩ = some (.int .u64 y2)) (go_keep)
    (first | (go_at_call 30; refine (H _ _ _).mono ?_; rintro e w' ⟨rfl, rfl⟩) | (go_at_call 29; refine (H2 _ _ (by go_simp) (by go_simp)).mono ?_; rintro e w' ⟨rfl, rfl⟩))
  go_wp2
  go_ret
  exact ⟨rfl, (HG1.out.alloc _).drewN 1⟩

set_option maxRecDepth 20000 in
set_option maxHeartbeats 1600000 in
theorem lessD_any (xB bx gW n : Nat) (f : Nat → Nat × Nat) (i j : Nat) (w : World) (h0 : w.cell? ⟨bx, 0, none⟩ = some (.pointer (some ⟨xB, 0, none⟩))) (h5 : w.cell? ⟨xB, 5, none⟩ = some (.slice (some ⟨gW, 0, none⟩) n n)) (hW : RdW w gW n f) (hi : i < n) (hj : j < n) :
    Calls Tryf.prog 19 #[.int .i64 i, .int .i64 j, .pointer (some ⟨bx, 0, none⟩)] w fun e w' => e = .returned (.int .i64 (cmpW (f i) (f j))) ∧ Gr w w' := by
  have H := compareD_any (f i) (f j)
  obtain ⟨c1, c2⟩ := hW i hi
  obtain ⟨c3, c4⟩ := hW j hj
  have i1 : (0 : Int) ≤ (i : Int) := by omega
  have i2 : (i : Int) < (n : Int) := by omega
  have i3 : (0 : Int) ≤ (j : Int) := by omega
  have i4 : (j : Int) < (n : Int) := by omega
  clear hW
  go_enter Tryf.func19, Tryf.ntmps19
  go_wp2_with fail
  go_region_held3 (fun w' => w'.cell? ⟨bx, 0, none⟩ = some (.pointer (some ⟨xB, 0, none⟩)) ∧ w'.cell? ⟨xB, 5, none⟩ = some (.slice (some ⟨gW, 0, none⟩) n n) ∧ w'.cell? ⟨gW, i * 2, none⟩ = some (.int .u64 ((f i).1 : Nat)) ∧ w'.cell? ⟨gW, i * 2 + 1, none⟩ = some (.int .u64 ((f i).2 : Nat)) ∧ w'.cell? ⟨gW, j * 2, none⟩ = some (.int .u64 ((f j).1 : Nat)) ∧ w'.cell? ⟨gW, j * 2 + 1, none⟩ = some (.int .u64 ((f j).2 : Nat))) (first | go_keep | exact ⟨kc hb h0, kc hb h5, kc hb c1, kc hb c2, kc hb c3, kc hb c4⟩)
    (first | (go_at_call 20; refine (H _).mono ?_; rintro e w' ⟨rfl, hg⟩; have hb := hg.below; have HG : Hid (Gr _ w') := hg; clear hg))
  go_wp2
  go_ret
  exact ⟨rfl, ((Gr.refl w).drewN 1).trans HG.out⟩

set_option maxRecDepth 20000 in
set_option maxHeartbeats 1600000 in
theorem less2D_any (xB bx gW n : Nat) (f : Nat → Nat × Nat) (a b i j : Nat) (w : World) (h0 : w.cell? ⟨bx, 0, none⟩ = some (.pointer (some ⟨xB, 0, none⟩))) (h5 : w.cell? ⟨xB, 5, none⟩ = some (.slice (some ⟨gW, 0, none⟩) n n)) (hW : RdW w gW n f) (hi : i < n) (hj : j < n) :
    Calls Tryf.prog 41 #[.agg #[.int .i64 a, .int .i64 i], .agg #[.int .i64 b, .int .i64 j], .pointer (some ⟨bx, 0, none⟩)] w fun e w' => e = .returned (.int .i64 (cmpW (f j) (f i))) ∧ Gr w w' := by
  have H := compareD_any (f j) (f i)
  obtain ⟨c1, c2⟩ := hW i hi
  obtain ⟨c3, c4⟩ := hW j hj
  have i1 : (0 : Int) ≤ (i : Int) := by omega
  have i2 : (i : Int) < (n : Int) := by omega
  have i3 : (0 : Int) ≤ (j : Int) := by omega
  have i4 : (j : Int) < (n : Int) := by omega
  clear hW
  go_enter Tryf.func41, Tryf.ntmps41
  go_wp2_with fail
  obtain ⟨W, hW⟩ : ∃ W, (w.alloc (Obj.cells #[Value.int IntKind.i64 a, Value.int IntKind.i64 i] 52)).alloc (Obj.cells #[Value.int IntKind.i64 b, Value.int IntKind.i64 j] 52) = W := ⟨_, rfl⟩
  have G1 : Gr w W := by rw [← hW]; exact ((Gr.refl w).alloc _).alloc _
  have B1 := G1.below
  have HG1 : Hid (Gr w W) := G1
  clear G1
  have d1 : W.cell? ⟨w.heap.size, 1, none⟩ = some (.int .i64 i) := by rw [← hW]; simp [go_sem]
  have d2 : W.cell? ⟨w.heap.size + 1, 1, none⟩ = some (.int .i64 j) := by rw [← hW]; simp [go_sem]
  replace h0 := kc B1 h0
  replace h5 := kc B1 h5
  replace c1 := kc B1 c1
  replace c2 := kc B1 c2
  replace c3 := kc B1 c3
  replace c4 := kc B1 c4
  rw [hW]
  clear hW
  go_region_held3 (fun w' => w'.cell? ⟨bx, 0, none⟩ = some (.pointer (some ⟨xB, 0, none⟩)) ∧ w'.cell? ⟨xB, 5, none⟩ = some (.slice (some ⟨gW, 0, none⟩) n n) ∧ w'.cell? ⟨gW, i * 2, none⟩ = some (.int .u64 ((f i).1 : Nat)) ∧ w'.cell? ⟨gW, i * 2 + 1, none⟩ = some (.int .u64 ((f i).2 : Nat)) ∧ w'.cell? ⟨gW, j * 2, none⟩ = some (.int .u64 ((f j).1 : Nat)) ∧ w'.cell? ⟨gW, j * 2 + 1, none⟩ = some (.int .u64 ((f j).2 : Nat)) ∧ w'.cell? ⟨w.heap.size, 1, none⟩ = some (.int .i64 i) ∧ w'.cell? ⟨w.heap.size + 1, 1, none⟩ = some (.int .i64 j)) (first | go_keep | exact ⟨kc hb h0, kc hb h5, kc hb c1, kc hb c2, kc hb c3, kc hb c4, kc hb d1, kc hb d2⟩)
    (first | (go_at_call 20; refine (H _).mono ?_; rintro e w' ⟨rfl, hg⟩; have hb := hg.below; have HG : Hid (Gr _ w') := hg; clear hg))
  go_wp2
  go_ret
  exact ⟨rfl, (HG1.out.drewN 1).trans HG.out⟩
end Go.Proofs.Qxb6613595aFmt
