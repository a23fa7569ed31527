import Derived.Test.Qxb6608761aEmMerge
namespace Go.Proofs.Qxb6608761a
open Go.RowKit

/-! ### the plain steps of the merge sort's loops -/
section
variable {α : Type} {le : α → α → Bool}
/-- inside a stretch: k places laid, p and q the next of the two halves -/
structure Mid (le : α → α → Bool) (w m t mid hi p q k : Nat) (A B : Nat → α) : Prop where
  pass : Pass le w m (2 * w * t) A B
  p1 : 2 * w * t ≤ p
  p2 : p ≤ mid
  q1 : mid ≤ q
  q2 : q ≤ hi
  kk : k + mid = p + q
  lay : seg B (2 * w * t) k ++ List.merge (seg A p mid) (seg A q hi) le = List.merge (seg A (2 * w * t) mid) (seg A mid hi) le

theorem pass_put {w m t k : Nat} {A B : Nat → α} (h : Pass le w m (2 * w * t) A B) (hk : 2 * w * t ≤ k) (v : α) : Pass le w m (2 * w * t) A (put B k v) := by
  intro r hr
  rw [seg_put_out, h r hr]
  right
  have hrt : r < t := by
    by_cases h : r < t
    · exact h
    · have := Nat.mul_le_mul_left (2 * w) (Nat.le_of_not_lt h); omega
  have := Nat.mul_le_mul_left (2 * w) (Nat.succ_le_of_lt hrt)
  rw [Nat.mul_succ] at this
  omega
theorem Mid.start {w m t mid hi : Nat} {A B : Nat → α} (h : Pass le w m (2 * w * t) A B) (h1 : 2 * w * t ≤ mid) (h2 : mid ≤ hi) : Mid le w m t mid hi (2 * w * t) mid (2 * w * t) A B :=
  ⟨h, Nat.le_refl _, h1, Nat.le_refl _, h2, by omega, by rw [seg_nil (Nat.le_refl _), List.nil_append]⟩
theorem Mid.left {w m t mid hi p q k : Nat} {A B : Nat → α} (h : Mid le w m t mid hi p q k A B) (hp : p < mid) (hle : q < hi → le (A p) (A q) = true) : Mid le w m t mid hi (p + 1) q (k + 1) A (put B k (A p)) := by
  have h1 := h.p1; have h2 := h.q1; have h3 := h.kk; have h4 := h.q2
  refine ⟨pass_put h.pass (by omega) _, by omega, hp, h2, h4, by omega, ?_⟩
  rw [seg_put_snoc _ _ (by omega), ← h.lay, seg_cons (f := A) hp, List.append_assoc]
  congr 1
  by_cases hq : q < hi
  · rw [seg_cons (f := A) (s := q) hq]
    simp [hle hq]
  · rw [seg_nil (f := A) (s := q) (by omega)]
    simp
theorem Mid.right {w m t mid hi p q k : Nat} {A B : Nat → α} (h : Mid le w m t mid hi p q k A B) (hq : q < hi) (hle : p < mid → le (A p) (A q) = false) : Mid le w m t mid hi p (q + 1) (k + 1) A (put B k (A q)) := by
  have h1 := h.p1; have h2 := h.q1; have h3 := h.kk; have h4 := h.q2; have h5 := h.p2
  refine ⟨pass_put h.pass (by omega) _, by omega, h5, by omega, by omega, by omega, ?_⟩
  rw [seg_put_snoc _ _ (by omega), ← h.lay, seg_cons (f := A) (s := q) hq, List.append_assoc]
  congr 1
  by_cases hp : p < mid
  · rw [seg_cons (f := A) (s := p) hp]
    simp [hle hp]
  · rw [seg_nil (f := A) (s := p) (by omega)]
    simp
theorem Mid.done {w m t mid hi p q : Nat} {A B : Nat → α} (h : Mid le w m t mid hi p q hi A B) (hm : mid = min m (2 * w * t + w)) (hh : hi = min m (2 * w * t + 2 * w)) : Pass le w m (2 * w * (t + 1)) A B := by
  have h1 := h.p1; have h2 := h.q1; have h3 := h.kk; have h4 := h.q2; have h5 := h.p2
  have hl := h.lay
  obtain rfl : p = mid := by omega
  obtain rfl : q = hi := by omega
  rw [seg_nil (f := A) (s := p) (Nat.le_refl _), seg_nil (f := A) (s := q) (Nat.le_refl _)] at hl
  simp at hl
  intro r hr
  by_cases e : r = t
  · subst e
    rw [← hm, ← hh]
    exact hl
  · refine h.pass r ?_
    have hrt : r < t := by
      by_cases h : r < t
      · exact h
      · have := Nat.mul_le_mul_left (2 * w) (show t + 1 ≤ r by omega); omega
    by_cases hw : 0 < w
    · exact Nat.mul_lt_mul_of_pos_left hrt (by omega)
    · obtain rfl : w = 0 := by omega
      simp at hr
theorem Pass.full {w m lo : Nat} {A B : Nat → α} (h : Pass le w m lo A B) (hm : m ≤ lo) : Pass le w m m A B := fun r hr => h r (by omega)
theorem Pass.none {w m : Nat} {A B : Nat → α} : Pass le w m 0 A B := fun r hr => by omega
end

theorem leS_total (f : Nat → Nat) (y : Bool) (a b : Nat × Nat) : (leS f y a b || leS f y b a) = true := by
  unfold leS
  cases y
  · simp only [Bool.false_eq_true, if_false]
    by_cases h : a.1 = b.1
    · rw [if_pos h, if_pos h.symm]; simp; omega
    · rw [if_neg h, if_neg (Ne.symm h)]; simp; omega
  · simp only [if_true]
    have := cmpN_total (seg f a.1 a.2) (seg f b.1 b.2)
    simpa using this
theorem leS_trans (f : Nat → Nat) (y : Bool) (a b c : Nat × Nat) (h1 : leS f y a b = true) (h2 : leS f y b c = true) : leS f y a c = true := by
  unfold leS at *
  cases y
  · simp only [Bool.false_eq_true, if_false] at *
    by_cases e1 : a.1 = b.1
    · rw [if_pos e1] at h1
      by_cases e2 : b.1 = c.1
      · rw [if_pos e2] at h2; rw [if_pos (by omega)]; simp at *; omega
      · rw [if_neg e2] at h2; rw [if_neg (by omega)]; simp at *; omega
    · rw [if_neg e1] at h1
      by_cases e2 : b.1 = c.1
      · rw [if_pos e2] at h2; rw [if_neg (by omega)]; simp at *; omega
      · rw [if_neg e2] at h2; simp at h1 h2; rw [if_neg (by omega)]; simp; omega
  · simp only [if_true, decide_eq_true_eq] at *
    exact cmpN_trans _ _ _ h1 h2

/-- the spans lie in n bytes -/
def Fits (n m : Nat) (S : Nat → Nat × Nat) : Prop := ∀ i, i < m → (S i).1 ≤ (S i).2 ∧ (S i).2 ≤ n

theorem spanLE_any (p : Option Addr) (n c : Nat) (f : Nat → Nat) (y : Bool) (a b : Nat × Nat) (w : World) (hn : n ≤ 1048576) (hc : n ≤ c) (hcm : c ≤ 9223372036854775807) (hp : Rd w p n f) (hnil : p = none → n = 0 ∧ c = 0)
    (ha : a.1 ≤ a.2 ∧ a.2 ≤ n) (hb : b.1 ≤ b.2 ∧ b.2 ≤ n) :
    Calls Try.prog 36 #[.slice p n c, spanV a, spanV b, .bool y] w fun e w' => e = .returned (.bool (leS f y a b)) ∧ Below w.heap.size w w' := by
  cases y
  · exact spanLE_place p n c f a b w
  · exact spanLE_bytes p n c f a b w hn hc hcm hp hnil ha hb

/-- the two rows in memory while the sort runs -/
structure Two (w wr : World) (m A B : Nat) (TA TB : Nat → Nat × Nat) : Prop where
  below : Below w.heap.size w wr
  na : w.heap.size ≤ A
  nb : w.heap.size ≤ B
  ne : A ≠ B
  a : wr.heap[A]? = some (.cells (rowS m TA) 47 (0, 0))
  b : wr.heap[B]? = some (.cells (rowS m TB) 47 (0, 0))
theorem Two.grow {w wr wr' : World} {m A B : Nat} {TA TB : Nat → Nat × Nat} (h : Two w wr m A B TA TB) (hb : Below wr.heap.size wr wr') : Two w wr' m A B TA TB :=
  ⟨h.below.trans (hb.mono (h.below.size)), h.na, h.nb, h.ne, (hb.block _ (blk_lt h.a)).trans h.a, (hb.block _ (blk_lt h.b)).trans h.b⟩
theorem Two.swap {w wr : World} {m A B : Nat} {TA TB : Nat → Nat × Nat} (h : Two w wr m A B TA TB) : Two w wr m B A TB TA := ⟨h.below, h.nb, h.na, h.ne.symm, h.b, h.a⟩
theorem Two.store {w wr : World} {m A B : Nat} {TA TB : Nat → Nat × Nat} (h : Two w wr m A B TA TB) (k : Nat) (v : Nat × Nat) :
    Two w ((wr.setCell ⟨B, 2 * k, none⟩ (.int .i64 (v.1 : Int))).setCell ⟨B, 2 * k + 1, none⟩ (.int .i64 (v.2 : Int))) m A B TA (put TB k v) := by
  have o : ∀ (W : World) (j : Nat) (u : Value), (W.setCell ⟨B, j, none⟩ u).heap[A]? = W.heap[A]? := fun W j u => Below.heap_setCell _ _ _ _ h.ne
  refine ⟨(h.below.setCell (by simpa using h.nb) _).setCell (by simpa using h.nb) _, h.na, h.nb, h.ne, ?_, ?_⟩
  · rw [o, o]; exact h.a
  · rw [setCell_own _ B (2 * k + 1) _ 47 _ (setCell_own _ B (2 * k) _ 47 _ h.b), rowS_put]
theorem Two.start (w : World) (m : Nat) (S : Nat → Nat × Nat) : Two w ((w.alloc (.cells (rowS m S) 47)).alloc (.cells (rowS m (fun _ => (0, 0))) 47)) m w.heap.size (w.heap.size + 1) S (fun _ => (0, 0)) := by
  refine ⟨((Below.refl _ _).alloc (Nat.le_refl _) _).alloc (by simp) _, Nat.le_refl _, by omega, by omega, ?_, ?_⟩
  · show ((w.heap.push _).push _)[_]? = _
    rw [Array.getElem?_push, if_neg (by simp), Array.getElem?_push, if_pos rfl]
  · show ((w.heap.push _).push _)[_]? = _
    rw [Array.getElem?_push, if_pos (by simp)]
end Go.Proofs.Qxb6608761a
