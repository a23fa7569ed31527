import Derived.Test.Qxb6613595aFmtOrBr
import Derived.Shelf.Abstract
namespace Go.Proofs.Qxb6613595aFmt
open Go.RowKit Go.Maps Go.Shelf
attribute [local go_sem] Oper.semAt_some
set_option linter.unusedVariables false

/-- The loop over 'known' in causalCheck.fault. -/
def flp (fF : Func) : Code := inB (sndC (fstC (sndC (sndC (fF.body.getD .skip)))))
def bodyOf : Code → Code
  | .rangeFunc _ _ _ b => b
  | c => c
def ops5 (fF : Func) : Array Oper := regOps (inB (bodyOf (flp fF)))
/-- Nothing but two rows has turned. -/
structure But2 (gk ga : Nat) (w W : World) : Prop where
  os : W.os = w.os
  tape : W.tape = w.tape
  output : W.output = w.output
  size : w.heap.size = W.heap.size
  blk : ∀ b, b ≠ gk → b ≠ ga → W.heap[b]? = w.heap[b]?
def Nums (w : World) (g n : Nat) (t : TypeId) (q : IntKind) : Prop := ∃ f : Nat → Nat, Row w g n t (fun h => .int q (f h : Nat))
theorem Nums.set {w : World} {g n : Nat} {t : TypeId} {q : IntKind} (h : Nums w g n t q) (i v : Nat) : Nums (w.setCell ⟨g, i, none⟩ (.int q (v : Nat))) g n t q := by
  obtain ⟨f, hf⟩ := h
  refine ⟨fun j => if j = i then v else f j, ?_⟩
  have := hf.set i (.int q (v : Nat))
  rwa [show upd (fun h => Value.int q (f h : Nat)) i (.int q (v : Nat)) = fun h => .int q ((if h = i then v else f h : Nat) : Int) from funext fun j => by simp only [upd]; split <;> rfl] at this
theorem Nums.same {w w' : World} {g n : Nat} {t : TypeId} {q : IntKind} (h : Nums w g n t q) (hb : w'.heap[g]? = w.heap[g]?) : Nums w' g n t q := let ⟨f, hf⟩ := h; ⟨f, hf.same hb⟩
theorem Nums.lt {w : World} {g n : Nat} {t : TypeId} {q : IntKind} (h : Nums w g n t q) : g < w.heap.size := let ⟨f, hf⟩ := h; hf.lt
theorem Nums.cell {w : World} {g n : Nat} {t : TypeId} {q : IntKind} (h : Nums w g n t q) (i : Nat) (hi : i < n) : ∃ k : Nat, w.cell? ⟨g, i, none⟩ = some (.int q (k : Nat)) ∧ w.frozen? ⟨g, i, none⟩ = false := let ⟨f, hf⟩ := h; ⟨f i, hf.cell i hi, hf.free i⟩
theorem But2.set1 {gk ga : Nat} {w W : World} (h : But2 gk ga w W) (i : Nat) (v : Value) : But2 gk ga w (W.setCell ⟨gk, i, none⟩ v) := ⟨h.os, h.tape, h.output, by rw [h.size]; simp [World.setCell], fun b h1 h2 => (Below.heap_setCell W _ _ b h1).trans (h.blk b h1 h2)⟩
theorem But2.set2 {gk ga : Nat} {w W : World} (h : But2 gk ga w W) (i : Nat) (v : Value) : But2 gk ga w (W.setCell ⟨ga, i, none⟩ v) := ⟨h.os, h.tape, h.output, by rw [h.size]; simp [World.setCell], fun b h1 h2 => (Below.heap_setCell W _ _ b h2).trans (h.blk b h1 h2)⟩
def frm5 (b4 x1 x2 : Nat) (z x : Nat → Value) : Act := { tmps := List.toArray (z 0 :: z 1 :: z 2 :: z 3 :: (.pointer (some ⟨b4, 0, none⟩) : Value) :: z 5 :: z 6 :: z 7 :: z 8 :: (.int .i64 (x1 : Nat) : Value) :: (.int .u64 (x2 : Nat) : Value) :: z 11 :: z 12 :: z 13 :: z 14 :: z 15 :: z 16 :: z 17 :: z 18 :: z 19 :: z 20 :: z 21 :: z 22 :: z 23 :: z 24 :: z 25 :: (x 0 : Value) :: (x 1 : Value) :: (x 2 : Value) :: (x 3 : Value) :: (x 4 : Value) :: (x 5 : Value) :: (x 6 : Value) :: (x 7 : Value) :: (x 8 : Value) :: (x 9 : Value) :: (x 10 : Value) :: (x 11 : Value) :: (x 12 : Value) :: (x 13 : Value) :: (x 14 : Value) :: (x 15 : Value) :: (x 17 : Value) :: z 43 :: z 44 :: z 45 :: z 46 :: z 47 :: z 48 :: z 49 :: z 50 :: z 51 :: z 52 :: z 53 :: z 54 :: z 55 :: z 56 :: z 57 :: z 58 :: z 59 :: z 60 :: z 61 :: z 62 :: z 63 :: z 64 :: z 65 :: z 66 :: z 67 :: z 68 :: z 69 :: z 70 :: z 71 :: z 72 :: z 73 :: z 74 :: z 75 :: z 76 :: z 77 :: z 78 :: z 79 :: z 80 :: z 81 :: z 82 :: z 83 :: z 84 :: z 85 :: z 86 :: z 87 :: z 88 :: z 89 :: z 90 :: z 91 :: z 92 :: z 93 :: z 94 :: z 95 :: z 96 :: z 97 :: z 98 :: []), defers := [] }
theorem size5 : (ops5 Tryf.f22).size = 19 := rfl
set_option maxRecDepth 20000 in
theorem acy5 : ∀ i o, (ops5 Tryf.f22)[i]? = some o → ∀ e ∈ o.after, Region.binds .any e = true → e.on < i := by
  have h : (List.range 19).all (fun i => (((ops5 Tryf.f22)[i]?).map (fun o => o.after.all (fun e => !Region.binds .any e || decide (e.on < i)))).getD true) = true := by kernel_rfl
  intro i o ho e he hb
  have hi : i < 19 := by
    have := (Array.getElem?_eq_some_iff.1 ho).1
    rw [size5] at this
    exact this
  have h2 := List.all_eq_true.1 h i (List.mem_range.2 hi)
  rw [ho] at h2
  simp only [Option.map_some, Option.getD_some, Array.all_eq_true', Bool.or_eq_true, Bool.not_eq_true', decide_eq_true_eq] at h2
  rcases h2 e he with h3 | h3
  · rw [hb] at h3; cases h3
  · exact h3

def pv5 (cB gk ga H x1 x2 r i : Nat) : Option Value :=
  if i = 0 ∨ i = 1 ∨ i = 5 ∨ i = 6 ∨ i = 11 ∨ i = 12 ∨ i = 13 then some (.pointer (some ⟨cB, 0, none⟩)) else if i = 2 then some (.pointer (some ⟨cB, 1, none⟩)) else if i = 3 then some (.slice (some ⟨gk, 0, none⟩) H H) else if i = 4 ∨ i = 9 then some (.int .i64 (x1 : Nat)) else if i = 7 then some (.pointer (some ⟨cB, 2, none⟩)) else if i = 8 then some (.slice (some ⟨ga, 0, none⟩) H H) else if i = 10 then some (.int .u64 (x2 : Nat)) else if i = 14 then some (.int .i64 (r : Nat)) else if i = 15 then some (.pointer (some ⟨gk, x1, none⟩)) else if i = 17 then some (.pointer (some ⟨ga, x1, none⟩)) else none
structure M5 (cB gk ga H x1 x2 r : Nat) (w : World) (X : Nat → Value) (ls : Array Bool) (W : World) : Prop where
  sz : ls.size = 19
  pure : ∀ i v, pv5 cB gk ga H x1 x2 r i = some v → ls.getD i false = true → X i = v
  but : But2 gk ga w W
  k : Nums W gk H 42 .u64
  a : Nums W ga H 3 .i64
theorem M5.step {cB gk ga H x1 x2 r : Nat} {w : World} {X : Nat → Value} {ls : Array Bool} {W : World} (h : M5 cB gk ga H x1 x2 r w X ls W) {i : Nat} {v : Value} (hi : pv5 cB gk ga H x1 x2 r i = some v) (hl : i < 19) : M5 cB gk ga H x1 x2 r w (upd X i v) (ls.setIfInBounds i true) W := by
  refine ⟨by simp [h.sz], fun j u hj hlj => ?_, h.but, h.k, h.a⟩
  by_cases hji : j = i
  · subst hji; rw [hi] at hj; cases hj; exact upd_same _ _ _
  · rw [upd_other _ _ _ _ hji]
    rw [getD_set ls i j false (by rw [h.sz]; exact hl), if_neg hji] at hlj
    exact h.pure j u hj hlj
theorem M5.store {cB gk ga H x1 x2 r : Nat} {w : World} {X : Nat → Value} {ls : Array Bool} {W W' : World} (h : M5 cB gk ga H x1 x2 r w X ls W) {i : Nat} (hi : pv5 cB gk ga H x1 x2 r i = none) (hl : i < 19) (hb : But2 gk ga w W') (hk : Nums W' gk H 42 .u64) (ha : Nums W' ga H 3 .i64) : M5 cB gk ga H x1 x2 r w X (ls.setIfInBounds i true) W' := by
  refine ⟨by simp [h.sz], fun j u hj hlj => ?_, hb, hk, ha⟩
  have hji : j ≠ i := fun e => by rw [e, hi] at hj; cases hj
  rw [getD_set ls i j false (by rw [h.sz]; exact hl), if_neg hji] at hlj
  exact h.pure j u hj hlj

set_option maxRecDepth 20000 in
set_option maxHeartbeats 4000000 in
theorem r5_any (n l b4 cB gk ga gv H x1 x2 r : Nat) (nm : Value) (hx : x1 < H) (hne : gk ≠ ga) (hcg : cB ≠ gk) (hca : cB ≠ ga) (hbg : b4 ≠ gk) (hba : b4 ≠ ga) (z : Nat → Value) (w : World)
    (h4 : w.heap[b4]? = some (.cells #[.pointer (some ⟨cB, 0, none⟩)] 76 (0, 0))) (hc : w.heap[cB]? = some (.cells #[.int .i64 (r : Nat), .slice (some ⟨gk, 0, none⟩) H H, .slice (some ⟨ga, 0, none⟩) H H, .slice (some ⟨gv, 0, none⟩) H H, nm] 104 (0, 0)))
    (hk : Nums w gk H 42 .u64) (ha : Nums w ga H 3 .i64) {Q : Exit → Act → World → Prop} (hQ : ∀ a W, But2 gk ga w W → Nums W gk H 42 .u64 → Nums W ga H 3 .i64 → Q .normal a W) :
    (Code.region 5 (ops5 Tryf.f22) true).wpIn (Fence.wide.inRound l) n Tryf.prog Q (frm5 b4 x1 x2 z (fun j => if j = 15 then z 41 else if j = 17 then z 42 else z (26 + j))) w := by
  refine wpIn_region_any (by kernel_rfl) ?_
  refine wpAnyIn_inv (fun ls a W => ∃ X, a = frm5 b4 x1 x2 z X ∧ M5 cB gk ga H x1 x2 r w X ls W) (fun ls a W h => by obtain ⟨X, _, h⟩ := h; rw [size5]; exact h.sz) acy5 ?_ ?_ _ _ _ _ ⟨_, rfl, ?_⟩ ?_
  · rintro ls a W i ⟨X, rfl, h⟩ hi hu hd
    rw [size5] at hi
    have dep : ∀ (o : Oper) (k : Nat), (ops5 Tryf.f22)[i]? = some o → (o.after.any (fun e => e.on == k && Region.binds .any e)) = true → ls.getD k false = true := fun o k ho hk => by
      rw [Array.any_eq_true'] at hk
      obtain ⟨e, he, hb⟩ := hk
      simp only [Bool.and_eq_true, beq_iff_eq] at hb
      rw [← hb.1]
      exact hd o ho e he hb.2
    have p4 : W.cell? ⟨b4, 0, none⟩ = some (.pointer (some ⟨cB, 0, none⟩)) := cell_blk ((h.but.blk _ hbg hba).trans h4) 0
    have hc' := (h.but.blk _ hcg hca).trans hc
    have p0 : W.cell? ⟨cB, 0, none⟩ = some (.int .i64 (r : Nat)) := cell_blk hc' 0
    have p1 : W.cell? ⟨cB, 1, none⟩ = some (.slice (some ⟨gk, 0, none⟩) H H) := cell_blk hc' 1
    have p2 : W.cell? ⟨cB, 2, none⟩ = some (.slice (some ⟨ga, 0, none⟩) H H) := cell_blk hc' 2
    have st := fun (v : Value) (hv : pv5 cB gk ga H x1 x2 r i = some v) => h.step hv hi
    have pu := fun (j : Nat) (v : Value) (hv : pv5 cB gk ga H x1 x2 r j = some v) (o : Oper) (ho : (ops5 Tryf.f22)[i]? = some o) (hb : (o.after.any (fun e => e.on == j && Region.binds .any e)) = true) => h.pure j v hv (dep o j ho hb)
    rcases (by omega : i = 0 ∨ i = 1 ∨ i = 2 ∨ i = 3 ∨ i = 4 ∨ i = 5 ∨ i = 6 ∨ i = 7 ∨ i = 8 ∨ i = 9 ∨ i = 10 ∨ i = 11 ∨ i = 12 ∨ i = 13 ∨ i = 14 ∨ i = 15 ∨ i = 16 ∨ i = 17 ∨ i = 18) with rfl | rfl | rfl | rfl | rfl | rfl | rfl | rfl | rfl | rfl | rfl | rfl | rfl | rfl | rfl | rfl | rfl | rfl | rfl
    · exact opIn_load rfl rfl _ (by simp) _ rfl _ _ rfl p4 ⟨upd X 0 _, rfl, st _ rfl⟩
    · exact opIn_nil rfl rfl _ rfl _ _ (pu 0 _ rfl _ rfl (by kernel_rfl)) ⟨upd X 1 _, rfl, st _ rfl⟩
    · exact opIn_field rfl rfl _ 1 rfl (by omega) _ (pu 1 _ rfl _ rfl (by kernel_rfl)) ⟨upd X 2 _, rfl, st _ rfl⟩
    · exact opIn_load rfl rfl _ (by simp) _ rfl _ _ (pu 2 _ rfl _ rfl (by kernel_rfl)) p1 ⟨upd X 3 _, rfl, st _ rfl⟩
    · exact opIn_move rfl rfl _ rfl rfl ⟨upd X 4 _, rfl, st _ rfl⟩
    · exact opIn_load rfl rfl _ (by simp) _ rfl _ _ rfl p4 ⟨upd X 5 _, rfl, st _ rfl⟩
    · exact opIn_nil rfl rfl _ rfl _ _ (pu 5 _ rfl _ rfl (by kernel_rfl)) ⟨upd X 6 _, rfl, st _ rfl⟩
    · exact opIn_field rfl rfl _ 2 rfl (by omega) _ (pu 6 _ rfl _ rfl (by kernel_rfl)) ⟨upd X 7 _, rfl, st _ rfl⟩
    · exact opIn_load rfl rfl _ (by simp) _ rfl _ _ (pu 7 _ rfl _ rfl (by kernel_rfl)) p2 ⟨upd X 8 _, rfl, st _ rfl⟩
    · exact opIn_move rfl rfl _ rfl rfl ⟨upd X 9 _, rfl, st _ rfl⟩
    · exact opIn_move rfl rfl _ rfl rfl ⟨upd X 10 _, rfl, st _ rfl⟩
    · exact opIn_load rfl rfl _ (by simp) _ rfl _ _ rfl p4 ⟨upd X 11 _, rfl, st _ rfl⟩
    · exact opIn_nil rfl rfl _ rfl _ _ (pu 11 _ rfl _ rfl (by kernel_rfl)) ⟨upd X 12 _, rfl, st _ rfl⟩
    · exact opIn_field rfl rfl _ 0 rfl (by omega) _ (pu 12 _ rfl _ rfl (by kernel_rfl)) ⟨upd X 13 _, rfl, st _ rfl⟩
    · exact opIn_load rfl rfl _ (by simp) _ rfl _ _ (pu 13 _ rfl _ rfl (by kernel_rfl)) p0 ⟨upd X 14 _, rfl, st _ rfl⟩
    · exact opIn_index rfl rfl _ (by simp) _ _ rfl gk x1 H (pu 3 _ rfl _ rfl (by kernel_rfl)) (pu 4 _ rfl _ rfl (by kernel_rfl)) hx ⟨upd X 15 _, rfl, st _ rfl⟩
    · obtain ⟨k0, q1, q2⟩ := h.k.cell x1 hx
      exact opIn_store42 rfl rfl _ _ rfl gk x1 x2 (pu 15 _ rfl _ rfl (by kernel_rfl)) (pu 10 _ rfl _ rfl (by kernel_rfl)) _ q1 q2 ⟨X, rfl, h.store rfl (by omega) (h.but.set1 _ _) (h.k.set _ _) (h.a.same (Below.heap_setCell W _ _ ga (Ne.symm hne)))⟩
    · exact opIn_index rfl rfl _ (by simp) _ _ rfl ga x1 H (pu 8 _ rfl _ rfl (by kernel_rfl)) (pu 9 _ rfl _ rfl (by kernel_rfl)) hx ⟨upd X 17 _, rfl, st _ rfl⟩
    · obtain ⟨k0, q1, q2⟩ := h.a.cell x1 hx
      exact opIn_store3 rfl rfl _ _ rfl ga x1 r (pu 17 _ rfl _ rfl (by kernel_rfl)) (pu 14 _ rfl _ rfl (by kernel_rfl)) _ q1 q2 ⟨X, rfl, h.store rfl (by omega) (h.but.set2 _ _) (h.k.same (Below.heap_setCell W _ _ gk hne)) (h.a.set _ _)⟩
  · rintro ls a W ⟨X, rfl, h⟩ hall
    exact hQ _ W h.but h.k h.a
  · have zz : ∀ i, (Array.replicate (ops5 Tryf.f22).size false).getD i false = false := fun i => by
      rw [Array.getD_eq_getD_getElem?, Array.getElem?_replicate]
      split <;> rfl
    exact ⟨by simp [size5], fun i v _ h => (by rw [zz i] at h; cases h), ⟨rfl, rfl, rfl, rfl, fun _ _ _ => rfl⟩, hk, ha⟩
  · rw [size5]
    exact Nat.le_trans List.countP_le_length (by simp)
end Go.Proofs.Qxb6613595aFmt
