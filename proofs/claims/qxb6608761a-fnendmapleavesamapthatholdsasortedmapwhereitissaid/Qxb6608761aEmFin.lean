import Derived.Test.Qxb6608761aEmEnd2
import Derived.Test.Qxb6608761aEmEnd3
import Derived.Test.Qxb6608761aEmZz2
namespace Go.Proofs.Qxb6608761a
open Go.RowKit Go.Sort

/-- Back-to-back spans, as numbers. -/
structure BackN (S : Nat → Nat × Nat) (m e : Nat) : Prop where
  fst : ∀ i, i < m → (S i).1 ≤ (S i).2
  next : ∀ i, i + 1 < m → (S (i + 1)).1 = (S i).2
  last : (S (m - 1)).2 = e
theorem BackN.mono {S : Nat → Nat × Nat} {m e : Nat} (h : BackN S m e) : ∀ j i, i < j → j < m → (S i).2 ≤ (S j).1 := by
  intro j
  induction j with
  | zero => intro i hi; omega
  | succ j ih =>
    intro i hi hj
    have hn := h.next j hj
    by_cases e : i = j
    · subst e; omega
    · have := ih i (by omega) (by omega)
      have := h.fst j (by omega)
      omega
theorem BackN.le {S : Nat → Nat × Nat} {m e : Nat} (h : BackN S m e) (i : Nat) (hi : i < m) : (S i).2 ≤ e := by
  rw [← h.last]
  by_cases k : i = m - 1
  · rw [k]; exact Nat.le_refl _
  · have := h.mono (m - 1) i (by omega) (by omega)
    have := h.fst (m - 1) (by omega)
    omega
theorem BackN.ge {S : Nat → Nat × Nat} {m e : Nat} (h : BackN S m e) (i : Nat) (hi : i < m) : (S 0).1 ≤ (S i).1 := by
  by_cases k : i = 0
  · rw [k]; exact Nat.le_refl _
  · have := h.mono i 0 (by omega) hi
    have := h.fst 0 (by omega)
    omega
theorem BackN.fits {S : Nat → Nat × Nat} {m e : Nat} (h : BackN S m e) (N : Nat) (hN : e ≤ N) : Fits N m S := fun i hi => ⟨h.fst i hi, Nat.le_trans (h.le i hi) hN⟩
theorem BackN.cat {S : Nat → Nat × Nat} {m e : Nat} (h : BackN S m e) (f : Nat → Nat) : ∀ k, k < m → (S 0).1 + (cat f S (k + 1)).length = (S k).2 := by
  intro k
  induction k with
  | zero => intro hk; rw [cat_succ, cat_zero, List.nil_append, seg_length]; have := h.fst 0 hk; omega
  | succ k ih =>
    intro hk
    rw [cat_succ, List.length_append, seg_length]
    have := ih (by omega)
    have := h.next k hk
    have := h.fst (k + 1) hk
    omega
theorem BackN.sorted {S : Nat → Nat × Nat} {m e : Nat} (h : BackN S m e) (f : Nat → Nat) : (seg S 0 m).Pairwise (fun x z => leS f false x z = true) := by
  rw [List.pairwise_iff_getElem]
  intro i j hi hj hij
  rw [seg_length] at hi hj
  rw [seg_getElem, seg_getElem, Nat.zero_add, Nat.zero_add]
  have := h.mono j i hij (by omega)
  have := h.fst i (by omega)
  have := h.fst j (by omega)
  simp only [leS]
  split
  · contradiction
  · split <;> simp <;> omega
theorem BackN.of {Z : Nat → Int × Int} {m : Nat} {e : Int} (h : Back Z m e) : BackN (fun i => ((Z i).1.toNat, (Z i).2.toNat)) m e.toNat :=
  ⟨fun i hi => by have := h.fst i hi; simp only; omega, fun i hi => by have := h.next i hi; simp only; rw [this], by simp only; rw [h.last]⟩

/-- The entries that the law opens. -/
def entsOf (S : Nat → Nat × Nat) (pd : Nat) (i j : Nat) : List Ent := (seg S i j).map fun a => ⟨a.1, a.2, pd, 0⟩
theorem entsOf_snoc (S : Nat → Nat × Nat) (pd i k : Nat) (h : i ≤ k) : entsOf S pd i (k + 1) = entsOf S pd i k ++ [⟨(S k).1, (S k).2, pd, 0⟩] := by
  simp [entsOf, seg_snoc h]
theorem entsOf_length (S : Nat → Nat × Nat) (pd i k : Nat) : (entsOf S pd i k).length = k - i := by simp [entsOf, seg_length]
theorem entsOf_mem {S : Nat → Nat × Nat} {pd i k : Nat} {x : Ent} (h : x ∈ entsOf S pd i k) : ∃ j, i ≤ j ∧ j < k ∧ x = ⟨(S j).1, (S j).2, pd, 0⟩ := by
  rw [entsOf, List.mem_map] at h
  obtain ⟨a, ha, rfl⟩ := h
  obtain ⟨j, h1, h2, rfl⟩ := seg_mem ha
  exact ⟨j, h1, h2, rfl⟩
theorem catE_ents (f : Nat → Nat) (S : Nat → Nat × Nat) (pd m : Nat) : catE f (entsOf S pd 0 m) = cat f S m := by
  simp [catE, entsOf, cat, List.flatMap_map]

/-- The entries' places. -/
def pr (x : Ent) : Nat × Nat := (x.s, x.e)
theorem pr_heads (f : Nat → Nat) (i : Nat) (l : List Ent) : (heads f i l).map pr = l.map pr := by
  apply List.ext_getElem?
  intro j
  simp only [heads, List.getElem?_map, List.getElem?_mapIdx]
  cases l[j]? with
  | none => rfl
  | some x => simp only [Option.map_some]; congr 1; split <;> rfl
theorem pr_ents (S : Nat → Nat × Nat) (pd i j : Nat) : (entsOf S pd i j).map pr = seg S i j := by
  simp [entsOf, pr, Function.comp_def]
def keyOf (f : Nat → Nat) (a : Nat × Nat) : List Nat := seg f a.1 a.2
/-- What EndMap's sort and the law's own sort give have the same keys, place by place. -/
theorem keys_eq {f : Nat → Nat} {S T : Nat → Nat × Nat} {pd m : Nat} {l' : List Ent} (hp : l'.Perm (heads f (entsOf S pd 0 m).length (entsOf S pd 0 m))) (ho : l'.Pairwise (fun x y => cfE f x y ≤ 0))
    (hT : (seg T 0 m).Perm (seg S 0 m)) (hs : (seg T 0 m).Pairwise (fun x z => leS f true x z = true)) : (l'.map pr).map (keyOf f) = (seg T 0 m).map (keyOf f) := by
  have h1 : (l'.map pr).Perm (seg S 0 m) := by
    have := hp.map pr
    rwa [pr_heads, pr_ents] at this
  refine same_keys (keyOf f) _ _ (h1.trans hT.symm) ?_ ?_
  · rw [List.pairwise_map]
    exact ho
  · refine hs.imp ?_
    intro a b hab
    have h := hab
    simp only [leS, if_true, decide_eq_true_eq] at h
    exact h
theorem cat_keys (f : Nat → Nat) (T : Nat → Nat × Nat) (m : Nat) : cat f T m = ((seg T 0 m).map (keyOf f)).flatten := by
  unfold cat; rw [List.flatMap_def]; rfl
theorem catE_keys (f : Nat → Nat) (l : List Ent) : catE f l = ((l.map pr).map (keyOf f)).flatten := by
  unfold catE; rw [List.flatMap_def, List.map_map]; rfl
theorem cat_perm_length {f : Nat → Nat} {S T : Nat → Nat × Nat} {m : Nat} (h : (seg T 0 m).Perm (seg S 0 m)) : (cat f T m).length = (cat f S m).length := (h.flatMap_right _).length_eq
theorem leS_antisymm {f : Nat → Nat} {a b : Nat × Nat} (h1 : leS f false a b = true) (h2 : leS f false b a = true) : a = b := by
  simp only [leS] at h1 h2
  obtain ⟨a1, a2⟩ := a
  obtain ⟨b1, b2⟩ := b
  simp at h1 h2
  by_cases e : a1 = b1
  · subst e; simp at h1 h2; rw [show a2 = b2 by omega]
  · rw [if_neg e] at h1; rw [if_neg (fun h => e h.symm)] at h2; omega
/-- The row in its places' order is the law's own. -/
theorem place_eq {f : Nat → Nat} {S T : Nat → Nat × Nat} {m e : Nat} (h : BackN S m e) (hT : (seg T 0 m).Perm (seg S 0 m)) (hs : (seg T 0 m).Pairwise (fun x z => leS f false x z = true)) : ∀ k, k < m → T k = S k := by
  have e1 : seg T 0 m = seg S 0 m := List.Perm.eq_of_pairwise (fun a b _ _ h1 h2 => leS_antisymm h1 h2) hs (h.sorted f) hT
  intro k hk
  have h1 : (seg T 0 m)[k]? = some (T k) := by rw [seg_get k (by omega), Nat.zero_add]
  have h2 : (seg S 0 m)[k]? = some (S k) := by rw [seg_get k (by omega), Nat.zero_add]
  rw [e1, h2] at h1
  exact (Option.some.inj h1).symm
end Go.Proofs.Qxb6608761a
