import Derived.Test.Qxb6613595aFmtOrMk3
namespace Go.Proofs.Qxb6613595aFmt
open Go.RowKit Go.Maps

/-- Where the parts of the index lie. -/
structure Adr where
  x : Nat
  n : Nat
  ids : Nat
  hst : Nat
  own : Nat
  wt : Nat
  f : Nat
  tw : Nat
def Adr.list (A : Adr) : List Nat := [A.x, A.n, A.ids, A.hst, A.own, A.wt, A.f, A.tw]
/-- The index as it is first laid. -/
structure Laid (ev : Value) (N : Nat) (w : World) (A : Adr) (W : World) : Prop where
  low : Below w.heap.size w W
  ge : ∀ b ∈ A.list, w.heap.size ≤ b
  nd : A.list.Nodup
  box : W.heap[A.x]? = some (.cells #[ev, .map (some A.n), .slice (some ⟨A.ids, 0, none⟩) N N, .slice (some ⟨A.hst, 0, none⟩) N N, .slice (some ⟨A.own, 0, none⟩) N N, .slice (some ⟨A.wt, 0, none⟩) N N, .map (some A.f), .slice (some ⟨A.tw, 0, none⟩) N N, .slice none 0 0] 73 (0, 0))
  num : W.heap[A.n]? = some (.map #[] 0)
  fst : W.heap[A.f]? = some (.map #[] 0)
  ids : Row W A.ids N 45 (fun _ => .slice none 0 0)
  hst : Row W A.hst N 3 (fun _ => .int .i64 0)
  own : Row W A.own N 42 (fun _ => .int .u64 0)
  wt : Row W A.wt (N * 2) 67 (fun _ => .int .u64 0)
  tw : Row W A.tw N 3 (fun _ => .int .i64 0)

theorem Mk.done {ev : Value} {N : Nat} {w : World} {X : Nat → Value} {B : Nat → Nat} {ls : Array Bool} {W : World} (h : Mk ev N w X B ls W) (hall : ∀ i, i < 23 → ls.getD i false = true) :
    X 22 = .pointer (some ⟨B 21, 0, none⟩) ∧ Laid ev N w ⟨B 21, B 1, B 4, B 7, B 10, B 13, B 16, B 19⟩ W := by
  obtain ⟨_, h22⟩ := h.b22 (hall 22 (by omega))
  obtain ⟨_, h21, g21, c21, n21⟩ := h.b21 (hall 21 (by omega))
  have mk := fun i (hi : i ∈ mks) => h.make i hi (hall i (mks_ne hi).2.2.2)
  have ij := fun i (hi : i ∈ mks) j (hj : j ∈ mks) => h.inj i hi j hj (hall i (mks_ne hi).2.2.2) (hall j (mks_ne hj).2.2.2)
  have m1 : (1 : Nat) ∈ mks := by simp [mks]
  have m4 : (4 : Nat) ∈ mks := by simp [mks]
  have m7 : (7 : Nat) ∈ mks := by simp [mks]
  have m10 : (10 : Nat) ∈ mks := by simp [mks]
  have m13 : (13 : Nat) ∈ mks := by simp [mks]
  have m16 : (16 : Nat) ∈ mks := by simp [mks]
  have m19 : (19 : Nat) ∈ mks := by simp [mks]
  refine ⟨by rw [h22, h21], h.low, ?_, ?_, c21, ?_, ?_, ?_, ?_, ?_, ?_, ?_⟩
  · simp only [Adr.list, List.mem_cons, List.not_mem_nil, or_false]
    rintro b (rfl | rfl | rfl | rfl | rfl | rfl | rfl | rfl)
    · exact g21
    · exact (mk 1 m1).2.1
    · exact (mk 4 m4).2.1
    · exact (mk 7 m7).2.1
    · exact (mk 10 m10).2.1
    · exact (mk 13 m13).2.1
    · exact (mk 16 m16).2.1
    · exact (mk 19 m19).2.1
  · have ne : ∀ i (hi : i ∈ mks) j (hj : j ∈ mks), i ≠ j → B i ≠ B j := fun i hi j hj hne e => hne (ij i hi j hj e)
    simp only [Adr.list, List.nodup_cons, List.mem_cons, List.not_mem_nil, or_false, not_or, not_false_eq_true, List.nodup_nil, and_true]
    refine ⟨⟨Ne.symm (n21 1 m1), Ne.symm (n21 4 m4), Ne.symm (n21 7 m7), Ne.symm (n21 10 m10), Ne.symm (n21 13 m13), Ne.symm (n21 16 m16), Ne.symm (n21 19 m19)⟩, ⟨ne 1 m1 4 m4 (by omega), ne 1 m1 7 m7 (by omega), ne 1 m1 10 m10 (by omega), ne 1 m1 13 m13 (by omega), ne 1 m1 16 m16 (by omega), ne 1 m1 19 m19 (by omega)⟩, ⟨ne 4 m4 7 m7 (by omega), ne 4 m4 10 m10 (by omega), ne 4 m4 13 m13 (by omega), ne 4 m4 16 m16 (by omega), ne 4 m4 19 m19 (by omega)⟩, ⟨ne 7 m7 10 m10 (by omega), ne 7 m7 13 m13 (by omega), ne 7 m7 16 m16 (by omega), ne 7 m7 19 m19 (by omega)⟩, ⟨ne 10 m10 13 m13 (by omega), ne 10 m10 16 m16 (by omega), ne 10 m10 19 m19 (by omega)⟩, ⟨ne 13 m13 16 m16 (by omega), ne 13 m13 19 m19 (by omega)⟩, ne 16 m16 19 m19 (by omega)⟩
  · exact (mk 1 m1).2.2
  · exact (mk 16 m16).2.2
  · exact (mk 4 m4).2.2
  · exact (mk 7 m7).2.2
  · exact (mk 10 m10).2.2
  · exact (mk 13 m13).2.2
  · exact (mk 19 m19).2.2

set_option maxRecDepth 20000 in
set_option maxHeartbeats 4000000 in
theorem mk_any (evB N C : Nat) (hN : N ≤ 4098) (w : World) (K : Act → World → Prop) (Q : Exit → Act → World → Prop)
    (hK : ∀ (X : Nat → Value) (A : Adr) (W : World), X 22 = .pointer (some ⟨A.x, 0, none⟩) → Laid (.slice (some ⟨evB, 0, none⟩) N C) N w A W → K (frm (.slice (some ⟨evB, 0, none⟩) N C) X) W) :
    Code.wp Tryf.prog (mk1 Tryf.f16) (Exit.then K Q) (frm (.slice (some ⟨evB, 0, none⟩) N C) (fun _ => undef)) w := by
  obtain ⟨ev, hev⟩ : ∃ ev, ev = Value.slice (some ⟨evB, 0, none⟩) N C := ⟨_, rfl⟩
  rw [← hev] at hK ⊢
  have e : (mk1 Tryf.f16) = .region 1 (ops1 Tryf.f16) true := rfl
  rw [e]
  refine wp_region_any (by kernel_rfl) ?_
  refine wpAny_inv (fun ls a W => ∃ X B, a = frm ev X ∧ Mk ev N w X B ls W) (fun ls a W h => by obtain ⟨X, B, _, h⟩ := h; rw [size1]; exact h.sz) acy1 ?_ ?_ _ _ _ _ ⟨fun _ => undef, fun _ => 0, rfl, ?_⟩ ?_
  · rintro ls a W i ⟨X, B, rfl, h⟩ hi hu hd
    rw [size1] at hi
    have dep : ∀ (o : Oper) (k : Nat), (ops1 Tryf.f16)[i]? = some o → (o.after.any (fun e => e.on == k && Region.binds .any e)) = true → ls.getD k false = true := fun o k ho hk => by
      rw [Array.any_eq_true'] at hk
      obtain ⟨e, he, hb⟩ := hk
      simp only [Bool.and_eq_true, beq_iff_eq] at hb
      rw [← hb.1]
      exact hd o ho e he hb.2
    have mkS := fun (hi : i ∈ mks) => h.makeS hi hu
    have puS := fun (v : Value) (hv : pv ev N i = some v) => h.pureS hv hi
    rcases (by omega : i = 0 ∨ i = 1 ∨ i = 2 ∨ i = 3 ∨ i = 4 ∨ i = 5 ∨ i = 6 ∨ i = 7 ∨ i = 8 ∨ i = 9 ∨ i = 10 ∨ i = 11 ∨ i = 12 ∨ i = 13 ∨ i = 14 ∨ i = 15 ∨ i = 16 ∨ i = 17 ∨ i = 18 ∨ i = 19 ∨ i = 20 ∨ i = 21 ∨ i = 22) with rfl | rfl | rfl | rfl | rfl | rfl | rfl | rfl | rfl | rfl | rfl | rfl | rfl | rfl | rfl | rfl | rfl | rfl | rfl | rfl | rfl | rfl | rfl
    · exact wpOp_move rfl rfl _ rfl rfl ⟨_, _, rfl, puS ev rfl⟩
    · exact wpOp_map0 rfl rfl _ rfl ⟨_, _, rfl, mkS (by simp [mks])⟩
    · exact wpOp_move rfl rfl _ rfl rfl ⟨_, _, rfl, puS ev rfl⟩
    · exact wpOp_len rfl rfl _ _ _ rfl Tryf.underlying26 _ _ _ ((h.pure 2 ev rfl (dep _ 2 rfl (by kernel_rfl))).trans hev) ⟨_, _, rfl, puS _ rfl⟩
    · have hx := h.pure 3 _ rfl (dep _ 3 rfl (by kernel_rfl))
      exact wpOp_make rfl rfl _ _ _ rfl _ _ hx hx (make1 Tryf.underlying69 i45 rfl (by omega) N (by omega) W) ⟨_, _, rfl, mkS (by simp [mks])⟩
    · exact wpOp_move rfl rfl _ rfl rfl ⟨_, _, rfl, puS ev rfl⟩
    · exact wpOp_len rfl rfl _ _ _ rfl Tryf.underlying26 _ _ _ ((h.pure 5 ev rfl (dep _ 5 rfl (by kernel_rfl))).trans hev) ⟨_, _, rfl, puS _ rfl⟩
    · have hx := h.pure 6 _ rfl (dep _ 6 rfl (by kernel_rfl))
      exact wpOp_make rfl rfl _ _ _ rfl _ _ hx hx (make1 Tryf.underlying45 i3 rfl (by omega) N (by omega) W) ⟨_, _, rfl, mkS (by simp [mks])⟩
    · exact wpOp_move rfl rfl _ rfl rfl ⟨_, _, rfl, puS ev rfl⟩
    · exact wpOp_len rfl rfl _ _ _ rfl Tryf.underlying26 _ _ _ ((h.pure 8 ev rfl (dep _ 8 rfl (by kernel_rfl))).trans hev) ⟨_, _, rfl, puS _ rfl⟩
    · have hx := h.pure 9 _ rfl (dep _ 9 rfl (by kernel_rfl))
      exact wpOp_make rfl rfl _ _ _ rfl _ _ hx hx (make1 Tryf.underlying34 i42 rfl (by omega) N (by omega) W) ⟨_, _, rfl, mkS (by simp [mks])⟩
    · exact wpOp_move rfl rfl _ rfl rfl ⟨_, _, rfl, puS ev rfl⟩
    · exact wpOp_len rfl rfl _ _ _ rfl Tryf.underlying26 _ _ _ ((h.pure 11 ev rfl (dep _ 11 rfl (by kernel_rfl))).trans hev) ⟨_, _, rfl, puS _ rfl⟩
    · have hx := h.pure 12 _ rfl (dep _ 12 rfl (by kernel_rfl))
      exact wpOp_make rfl rfl _ _ _ rfl _ _ hx hx (make2 N (by omega) W) ⟨_, _, rfl, mkS (by simp [mks])⟩
    · exact wpOp_move rfl rfl _ rfl rfl ⟨_, _, rfl, puS ev rfl⟩
    · exact wpOp_len rfl rfl _ _ _ rfl Tryf.underlying26 _ _ _ ((h.pure 14 ev rfl (dep _ 14 rfl (by kernel_rfl))).trans hev) ⟨_, _, rfl, puS _ rfl⟩
    · exact wpOp_map1 rfl rfl _ _ _ _ rfl Tryf.underlying71 N (h.pure 15 _ rfl (dep _ 15 rfl (by kernel_rfl))) ⟨_, _, rfl, mkS (by simp [mks])⟩
    · exact wpOp_move rfl rfl _ rfl rfl ⟨_, _, rfl, puS ev rfl⟩
    · exact wpOp_len rfl rfl _ _ _ rfl Tryf.underlying26 _ _ _ ((h.pure 17 ev rfl (dep _ 17 rfl (by kernel_rfl))).trans hev) ⟨_, _, rfl, puS _ rfl⟩
    · have hx := h.pure 18 _ rfl (dep _ 18 rfl (by kernel_rfl))
      exact wpOp_make rfl rfl _ _ _ rfl _ _ hx hx (make1 Tryf.underlying45 i3 rfl (by omega) N (by omega) W) ⟨_, _, rfl, mkS (by simp [mks])⟩
    · have hm : ∀ i, i ∈ mks → ls.getD i false = true := by
        simp only [mks, List.mem_cons, List.not_mem_nil, or_false]
        rintro i (rfl | rfl | rfl | rfl | rfl | rfl | rfl) <;> exact dep _ _ rfl (by kernel_rfl)
      have h0 := h.pure 0 ev rfl (dep _ 0 rfl (by kernel_rfl))
      have g := fun i (hi : i ∈ mks) => (h.make i hi (hm i hi)).1
      have hb := build1 (X 0) (X 1) (X 4) (X 7) (X 10) (X 13) (X 16) (X 19) evB (B 1) (B 4) (B 7) (B 10) (B 13) (B 16) (B 19) N C (h0.trans hev) (g 1 (by simp [mks])) (g 4 (by simp [mks])) (g 7 (by simp [mks])) (g 10 (by simp [mks])) (g 13 (by simp [mks])) (g 16 (by simp [mks])) (g 19 (by simp [mks])) W
      have e2 : (#[X 0, X 1, X 4, X 7, X 10, X 13, X 16, X 19, .slice none 0 0] : Array Value) = boxC ev N B := by
        rw [h0, g 1 (by simp [mks]), g 4 (by simp [mks]), g 7 (by simp [mks]), g 10 (by simp [mks]), g 13 (by simp [mks]), g 16 (by simp [mks]), g 19 (by simp [mks])]
        rfl
      rw [e2] at hb
      have e3 : (#[(0, Operand.tmp 18), (1, Operand.tmp 19), (2, Operand.tmp 22), (3, Operand.tmp 25), (4, Operand.tmp 28), (5, Operand.tmp 31), (6, Operand.tmp 34), (7, Operand.tmp 37)] : Array (Nat × Operand)).map (fun p => (p.1, (frm ev X).eval p.2)) = #[(0, X 0), (1, X 1), (2, X 4), (3, X 7), (4, X 10), (5, X 13), (6, X 16), (7, X 19)] := by
        simp only [List.map_toArray, List.map_cons, List.map_nil]
        rfl
      exact wpOp_build rfl rfl _ _ rfl _ e3 hb ⟨upd X 20 (.agg (boxC ev N B)), B, rfl, h.buildS hu hm⟩
    · have h20 := dep _ 20 rfl (by kernel_rfl)
      exact wpOp_box rfl rfl _ _ rfl _ (h.b20 h20).2 ⟨_, _, rfl, h.boxS hu h20⟩
    · exact wpOp_assign rfl rfl _ rfl rfl ⟨_, _, rfl, h.lastS (dep _ 21 rfl (by kernel_rfl))⟩
  · rintro ls a W ⟨X, B, rfl, h⟩ hall
    obtain ⟨h1, h2⟩ := h.done hall
    exact hK X _ W h1 h2
  · have z : ∀ i, (Array.replicate (ops1 Tryf.f16).size false).getD i false = false := fun i => by
      rw [Array.getD_eq_getD_getElem?, Array.getElem?_replicate]
      split <;> rfl
    have nz : ∀ {P : Prop} i, (Array.replicate (ops1 Tryf.f16).size false).getD i false = true → P := fun i h => by rw [z i] at h; cases h
    exact ⟨by simp [size1], (Below.refl _ w).drew, fun i v _ h => nz i h, fun i _ h => nz i h, fun i _ j _ h => nz i h, fun h => nz _ h, fun h => nz _ h, fun h => nz _ h⟩
  · rw [size1]
    exact Nat.le_trans List.countP_le_length (by simp)
end Go.Proofs.Qxb6613595aFmt
