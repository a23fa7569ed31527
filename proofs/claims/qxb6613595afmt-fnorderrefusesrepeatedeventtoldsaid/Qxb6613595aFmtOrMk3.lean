import Derived.Test.Qxb6613595aFmtOrMk2
namespace Go.Proofs.Qxb6613595aFmt
open Go.RowKit Go.Maps

def mks : List Nat := [1, 4, 7, 10, 13, 16, 19]
def pv (ev : Value) (N : Nat) (i : Nat) : Option Value := if i ∈ [0, 2, 5, 8, 11, 14, 17] then some ev else if i ∈ [3, 6, 9, 12, 15, 18] then some (.int .i64 N) else none
def mv (N i b : Nat) : Value := if i = 1 ∨ i = 16 then .map (some b) else .slice (some ⟨b, 0, none⟩) N N
def mo (N i : Nat) : Obj := if i = 1 ∨ i = 16 then .map #[] 0 else if i = 4 then .cells (mkR N (fun _ => .slice none 0 0)) 45 else if i = 10 then .cells (mkR N (fun _ => .int .u64 0)) 42 else if i = 13 then .cells (mkR (N * 2) (fun _ => .int .u64 0)) 67 else .cells (mkR N (fun _ => .int .i64 0)) 3
def boxC (ev : Value) (N : Nat) (B : Nat → Nat) : Array Value := #[ev, .map (some (B 1)), .slice (some ⟨B 4, 0, none⟩) N N, .slice (some ⟨B 7, 0, none⟩) N N, .slice (some ⟨B 10, 0, none⟩) N N, .slice (some ⟨B 13, 0, none⟩) N N, .map (some (B 16)), .slice (some ⟨B 19, 0, none⟩) N N, .slice none 0 0]
def updN (f : Nat → Nat) (i v : Nat) : Nat → Nat := fun j => if j = i then v else f j

structure Mk (ev : Value) (N : Nat) (w : World) (X : Nat → Value) (B : Nat → Nat) (ls : Array Bool) (W : World) : Prop where
  sz : ls.size = 23
  low : Below w.heap.size w W
  pure : ∀ i v, pv ev N i = some v → ls.getD i false = true → X i = v
  make : ∀ i, i ∈ mks → ls.getD i false = true → X i = mv N i (B i) ∧ w.heap.size ≤ B i ∧ W.heap[B i]? = some (mo N i)
  inj : ∀ i, i ∈ mks → ∀ j, j ∈ mks → ls.getD i false = true → ls.getD j false = true → B i = B j → i = j
  b20 : ls.getD 20 false = true → (∀ i, i ∈ mks → ls.getD i false = true) ∧ X 20 = .agg (boxC ev N B)
  b21 : ls.getD 21 false = true → ls.getD 20 false = true ∧ X 21 = .pointer (some ⟨B 21, 0, none⟩) ∧ w.heap.size ≤ B 21 ∧ W.heap[B 21]? = some (.cells (boxC ev N B) 73) ∧ ∀ i, i ∈ mks → B i ≠ B 21
  b22 : ls.getD 22 false = true → ls.getD 21 false = true ∧ X 22 = X 21

variable {ev : Value} {N : Nat} {w : World} {X : Nat → Value} {B : Nat → Nat} {ls : Array Bool} {W : World}
theorem pv_mks {i : Nat} {v : Value} (h : pv ev N i = some v) : i ∉ mks ∧ i ≠ 20 ∧ i ≠ 21 ∧ i ≠ 22 := by
  unfold pv at h
  split at h
  · rename_i h1
    simp at h1
    rcases h1 with rfl | rfl | rfl | rfl | rfl | rfl | rfl <;> simp [mks]
  · split at h
    · rename_i h1
      simp at h1
      rcases h1 with rfl | rfl | rfl | rfl | rfl | rfl <;> simp [mks]
    · cases h
theorem mks_ne {i : Nat} (h : i ∈ mks) : i ≠ 20 ∧ i ≠ 21 ∧ i ≠ 22 ∧ i < 23 := by
  simp [mks] at h
  rcases h with rfl | rfl | rfl | rfl | rfl | rfl | rfl <;> simp
theorem Mk.pureS (h : Mk ev N w X B ls W) {i : Nat} {v : Value} (hi : pv ev N i = some v) (hl : i < 23) : Mk ev N w (upd X i v) B (ls.setIfInBounds i true) W := by
  obtain ⟨n1, n2, n3, n4⟩ := pv_mks hi
  have g : ∀ j, (ls.setIfInBounds i true).getD j false = if j = i then true else ls.getD j false := fun j => getD_set ls i j false (by rw [h.sz]; exact hl)
  have go : ∀ j, j ≠ i → (ls.setIfInBounds i true).getD j false = ls.getD j false := fun j hj => by rw [g, if_neg hj]
  have gm : ∀ j, j ∈ mks → (ls.setIfInBounds i true).getD j false = ls.getD j false := fun j hj => go j (fun e => n1 (e ▸ hj))
  refine ⟨by simp [h.sz], h.low, fun j u hj hlj => ?_, fun j hj hlj => ?_, fun a ha b hb hla hlb => ?_, fun hl20 => ?_, fun hl21 => ?_, fun hl22 => ?_⟩
  · by_cases hji : j = i
    · subst hji; rw [hi] at hj; cases hj; exact upd_same _ _ _
    · rw [upd_other _ _ _ _ hji]; rw [go j hji] at hlj; exact h.pure j u hj hlj
  · rw [gm j hj] at hlj
    rw [upd_other X i j v (fun e => n1 (e ▸ hj))]
    exact h.make j hj hlj
  · rw [gm a ha] at hla; rw [gm b hb] at hlb
    exact h.inj a ha b hb hla hlb
  · rw [go 20 (Ne.symm n2)] at hl20
    obtain ⟨h1, h2⟩ := h.b20 hl20
    exact ⟨fun j hj => by rw [gm j hj]; exact h1 j hj, by rw [upd_other _ _ _ _ (Ne.symm n2)]; exact h2⟩
  · rw [go 21 (Ne.symm n3)] at hl21
    obtain ⟨h1, h2, h3⟩ := h.b21 hl21
    exact ⟨by rw [go 20 (Ne.symm n2)]; exact h1, by rw [upd_other _ _ _ _ (Ne.symm n3)]; exact h2, h3⟩
  · rw [go 22 (Ne.symm n4)] at hl22
    obtain ⟨h1, h2⟩ := h.b22 hl22
    exact ⟨by rw [go 21 (Ne.symm n3)]; exact h1, by rw [upd_other _ _ _ _ (Ne.symm n4), upd_other _ _ _ _ (Ne.symm n3)]; exact h2⟩
theorem Mk.makeS (h : Mk ev N w X B ls W) {i : Nat} (hi : i ∈ mks) (hu : ls.getD i false = false) : Mk ev N w (upd X i (mv N i W.heap.size)) (updN B i W.heap.size) (ls.setIfInBounds i true) (W.alloc (mo N i)) := by
  obtain ⟨n2, n3, n4, hl⟩ := mks_ne hi
  have g : ∀ j, (ls.setIfInBounds i true).getD j false = if j = i then true else ls.getD j false := fun j => getD_set ls i j false (by rw [h.sz]; exact hl)
  have go : ∀ j, j ≠ i → (ls.setIfInBounds i true).getD j false = ls.getD j false := fun j hj => by rw [g, if_neg hj]
  have h20 : ls.getD 20 false = false := by
    cases hc : ls.getD 20 false with
    | false => rfl
    | true => have := (h.b20 hc).1 i hi; rw [hu] at this; cases this
  have h21 : ls.getD 21 false = false := by
    cases hc : ls.getD 21 false with
    | false => rfl
    | true => have := (h.b21 hc).1; rw [h20] at this; cases this
  have h22 : ls.getD 22 false = false := by
    cases hc : ls.getD 22 false with
    | false => rfl
    | true => have := (h.b22 hc).1; rw [h21] at this; cases this
  have hsz := h.low.size
  have lt : ∀ j, j ∈ mks → ls.getD j false = true → B j < W.heap.size := fun j hj hlj => blk_lt (h.make j hj hlj).2.2
  refine ⟨by simp [h.sz], h.low.alloc hsz _, fun j u hj hlj => ?_, fun j hj hlj => ?_, fun a ha b hb hla hlb hab => ?_, fun hl20 => ?_, fun hl21 => ?_, fun hl22 => ?_⟩
  · have hji : j ≠ i := fun e => (pv_mks hj).1 (e ▸ hi)
    rw [upd_other _ _ _ _ hji]; rw [go j hji] at hlj; exact h.pure j u hj hlj
  · by_cases hji : j = i
    · subst hji
      refine ⟨by rw [upd_same]; simp [updN], by simp [updN]; exact hsz, ?_⟩
      simp only [updN, if_true]
      exact heap_alloc_new W _
    · rw [go j hji] at hlj
      obtain ⟨m1, m2, m3⟩ := h.make j hj hlj
      refine ⟨by rw [upd_other _ _ _ _ hji]; simp [updN, hji]; exact m1, by simp [updN, hji]; exact m2, ?_⟩
      simp only [updN, hji, if_false]
      exact alloc_blk m3 _
  · by_cases hai : a = i
    · by_cases hbi : b = i
      · rw [hai, hbi]
      · rw [go b hbi] at hlb
        simp only [updN, hai, hbi, if_true, if_false] at hab
        have := lt b hb hlb
        omega
    · rw [go a hai] at hla
      by_cases hbi : b = i
      · simp only [updN, hai, hbi, if_true, if_false] at hab
        have := lt a ha hla
        omega
      · rw [go b hbi] at hlb
        simp only [updN, hai, hbi, if_false] at hab
        exact h.inj a ha b hb hla hlb hab
  · rw [go 20 (Ne.symm n2), h20] at hl20; cases hl20
  · rw [go 21 (Ne.symm n3), h21] at hl21; cases hl21
  · rw [go 22 (Ne.symm n4), h22] at hl22; cases hl22
theorem Mk.buildS (h : Mk ev N w X B ls W) (hu : ls.getD 20 false = false) (hm : ∀ i, i ∈ mks → ls.getD i false = true) : Mk ev N w (upd X 20 (.agg (boxC ev N B))) B (ls.setIfInBounds 20 true) W := by
  have go : ∀ j, j ≠ 20 → (ls.setIfInBounds 20 true).getD j false = ls.getD j false := fun j hj => by rw [getD_set ls 20 j false (by rw [h.sz]; omega), if_neg hj]
  have h21 : ls.getD 21 false = false := by
    cases hc : ls.getD 21 false with
    | false => rfl
    | true => have := (h.b21 hc).1; rw [hu] at this; cases this
  have h22 : ls.getD 22 false = false := by
    cases hc : ls.getD 22 false with
    | false => rfl
    | true => have := (h.b22 hc).1; rw [h21] at this; cases this
  refine ⟨by simp [h.sz], h.low, fun j u hj hlj => ?_, fun j hj hlj => ?_, fun a ha b hb hla hlb => ?_, fun _ => ⟨fun j hj => by rw [go j (mks_ne hj).1]; exact hm j hj, upd_same _ _ _⟩, fun hl21 => ?_, fun hl22 => ?_⟩
  · have hji := (pv_mks hj).2.1
    rw [upd_other _ _ _ _ hji]; rw [go j hji] at hlj; exact h.pure j u hj hlj
  · rw [go j (mks_ne hj).1] at hlj; rw [upd_other _ _ _ _ (mks_ne hj).1]; exact h.make j hj hlj
  · rw [go a (mks_ne ha).1] at hla; rw [go b (mks_ne hb).1] at hlb; exact h.inj a ha b hb hla hlb
  · rw [go 21 (by omega), h21] at hl21; cases hl21
  · rw [go 22 (by omega), h22] at hl22; cases hl22
theorem Mk.boxS (h : Mk ev N w X B ls W) (hu : ls.getD 21 false = false) (h20 : ls.getD 20 false = true) : Mk ev N w (upd X 21 (.pointer (some ⟨W.heap.size, 0, none⟩))) (updN B 21 W.heap.size) (ls.setIfInBounds 21 true) (W.alloc (.cells (boxC ev N B) 73)) := by
  have go : ∀ j, j ≠ 21 → (ls.setIfInBounds 21 true).getD j false = ls.getD j false := fun j hj => by rw [getD_set ls 21 j false (by rw [h.sz]; omega), if_neg hj]
  have h22 : ls.getD 22 false = false := by
    cases hc : ls.getD 22 false with
    | false => rfl
    | true => have := (h.b22 hc).1; rw [hu] at this; cases this
  have hsz := h.low.size
  have e : boxC ev N (updN B 21 W.heap.size) = boxC ev N B := rfl
  have eN : ∀ j, j ∈ mks → updN B 21 W.heap.size j = B j := fun j hj => by simp [updN, (mks_ne hj).2.1]
  obtain ⟨q1, q2⟩ := h.b20 h20
  refine ⟨by simp [h.sz], h.low.alloc hsz _, fun j u hj hlj => ?_, fun j hj hlj => ?_, fun a ha b hb hla hlb hab => ?_, fun _ => ⟨fun j hj => by rw [go j (mks_ne hj).2.1]; exact q1 j hj, by rw [upd_other _ _ _ _ (by omega), e]; exact q2⟩, fun _ => ⟨by rw [go 20 (by omega)]; exact h20, by rw [upd_same]; simp [updN], by simp [updN]; exact hsz, ?_, fun j hj => ?_⟩, fun hl22 => ?_⟩
  · have hji := (pv_mks hj).2.2.1
    rw [upd_other _ _ _ _ hji]; rw [go j hji] at hlj; exact h.pure j u hj hlj
  · rw [go j (mks_ne hj).2.1] at hlj
    obtain ⟨m1, m2, m3⟩ := h.make j hj hlj
    rw [upd_other _ _ _ _ (mks_ne hj).2.1, eN j hj]
    exact ⟨m1, m2, alloc_blk m3 _⟩
  · rw [go a (mks_ne ha).2.1] at hla; rw [go b (mks_ne hb).2.1] at hlb
    rw [eN a ha, eN b hb] at hab
    exact h.inj a ha b hb hla hlb hab
  · rw [e]
    simp only [updN, if_true]
    exact heap_alloc_new W _
  · rw [eN j hj]
    simp only [updN, if_true]
    have := blk_lt (h.make j hj (q1 j hj)).2.2
    omega
  · rw [go 22 (by omega), h22] at hl22; cases hl22
theorem Mk.lastS (h : Mk ev N w X B ls W) (h21 : ls.getD 21 false = true) : Mk ev N w (upd X 22 (X 21)) B (ls.setIfInBounds 22 true) W := by
  have go : ∀ j, j ≠ 22 → (ls.setIfInBounds 22 true).getD j false = ls.getD j false := fun j hj => by rw [getD_set ls 22 j false (by rw [h.sz]; omega), if_neg hj]
  refine ⟨by simp [h.sz], h.low, fun j u hj hlj => ?_, fun j hj hlj => ?_, fun a ha b hb hla hlb => ?_, fun hl20 => ?_, fun hl21 => ?_, fun _ => ⟨by rw [go 21 (by omega)]; exact h21, by rw [upd_same, upd_other _ _ _ _ (by omega)]⟩⟩
  · have hji := (pv_mks hj).2.2.2
    rw [upd_other _ _ _ _ hji]; rw [go j hji] at hlj; exact h.pure j u hj hlj
  · rw [go j (mks_ne hj).2.2.1] at hlj; rw [upd_other _ _ _ _ (mks_ne hj).2.2.1]; exact h.make j hj hlj
  · rw [go a (mks_ne ha).2.2.1] at hla; rw [go b (mks_ne hb).2.2.1] at hlb; exact h.inj a ha b hb hla hlb
  · rw [go 20 (by omega)] at hl20
    obtain ⟨h1, h2⟩ := h.b20 hl20
    exact ⟨fun j hj => by rw [go j (mks_ne hj).2.2.1]; exact h1 j hj, by rw [upd_other _ _ _ _ (by omega)]; exact h2⟩
  · obtain ⟨h1, h2, h3⟩ := h.b21 h21
    exact ⟨by rw [go 20 (by omega)]; exact h1, by rw [upd_other _ _ _ _ (by omega)]; exact h2, h3⟩
end Go.Proofs.Qxb6613595aFmt
