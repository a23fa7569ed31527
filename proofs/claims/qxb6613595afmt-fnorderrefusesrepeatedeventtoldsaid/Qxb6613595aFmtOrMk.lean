import Derived.Test.Qxb6613595aFmtOrRow
import Derived.Orders
namespace Go.Proofs.Qxb6613595aFmt
open Go.RowKit Go.Maps

section
variable {P : Program} {md : Region.Mode} {ops : Array Oper} {Q : Exit → Act → World → Prop}
theorem countP_less {f g : Nat → Bool} {i : Nat} (h : ∀ j, g j = true → f j = true) (hf : f i = true) (hg : g i = false) : ∀ l : List Nat, i ∈ l → l.countP g < l.countP f
  | [], hi => by cases hi
  | x :: l, hi => by
    have le : ∀ l : List Nat, l.countP g ≤ l.countP f := fun l => List.countP_mono_left (fun j _ => h j)
    rcases List.mem_cons.1 hi with rfl | hi'
    · rw [List.countP_cons_of_pos hf, List.countP_cons_of_neg (by simp [hg])]
      have := le l
      omega
    · have := countP_less h hf hg l hi'
      by_cases hx : g x = true
      · rw [List.countP_cons_of_pos hx, List.countP_cons_of_pos (h x hx)]; omega
      · rw [List.countP_cons_of_neg hx]
        have : l.countP f ≤ (x :: l).countP f := by rw [List.countP_cons]; omega
        omega
theorem getD_set (ls : Array Bool) (i j : Nat) (d : Bool) (hi : i < ls.size) : (ls.setIfInBounds i true).getD j d = if j = i then true else ls.getD j d := by
  simp only [Array.getD_eq_getD_getElem?, Array.getElem?_setIfInBounds]
  by_cases h : j = i
  · subst h; simp [hi]
  · simp [h, Ne.symm h]
/-- A region in whatever order: an invariant over what has come up. -/
theorem wpAny_inv (Inv : Array Bool → Act → World → Prop) (hs : ∀ ls a w, Inv ls a w → ls.size = ops.size) (hacy : ∀ i o, ops[i]? = some o → ∀ e ∈ o.after, Region.binds md e = true → e.on < i)
    (hstep : ∀ ls a w i, Inv ls a w → i < ops.size → ls.getD i false = false → (∀ o, ops[i]? = some o → ∀ e ∈ o.after, Region.binds md e = true → ls.getD e.on false = true) → wpOp P ops Q i (fun a' w' => Inv (ls.setIfInBounds i true) a' w') a w)
    (hend : ∀ ls a w, Inv ls a w → (∀ i, i < ops.size → ls.getD i false = true) → Q .normal a w) :
    ∀ (fuel : Nat) (ls : Array Bool) (a : Act) (w : World), Inv ls a w → (List.range ops.size).countP (fun i => !ls.getD i false) ≤ fuel → wpAny P md ops Q fuel ls a w := by
  have gd : ∀ (ls : Array Bool) i, i < ls.size → ls.getD i true = ls.getD i false := fun ls i hi => by simp [Array.getD_eq_getD_getElem?, hi]
  have hready : ∀ ls : Array Bool, ls.size = ops.size → Region.ready md ops ls = [] → ∀ i, i < ops.size → ls.getD i false = true := by
    intro ls hsz hr i
    induction i using Nat.strongRecOn with
    | _ i ih =>
      intro hi
      cases hc : ls.getD i false with
      | true => rfl
      | false =>
        exfalso
        have hm : i ∈ Region.ready md ops ls := by
          unfold Region.ready
          rw [List.mem_filter]
          refine ⟨List.mem_range.2 hi, ?_⟩
          rw [gd ls i (by omega), hc]
          have ho : ops[i]? = some ops[i] := Array.getElem?_eq_getElem hi
          rw [ho]
          simp only [Bool.not_false, Option.map_some, Option.getD_some, Bool.true_and, Array.all_eq_true', Bool.or_eq_true, Bool.not_eq_true']
          intro e he
          cases hb : Region.binds md e with
          | false => exact .inl rfl
          | true =>
            have hlt := hacy i _ ho e he hb
            exact .inr (ih e.on hlt (by omega))
        rw [hr] at hm
        cases hm
  intro fuel
  induction fuel with
  | zero =>
    intro ls a w hI hc
    have hall : ∀ i, i < ops.size → ls.getD i false = true := fun i hi => by
      have h0 := List.countP_eq_zero.1 (Nat.le_zero.1 hc) i (List.mem_range.2 hi)
      simpa using h0
    refine ⟨?_, hend ls a w hI hall⟩
    unfold Region.ready
    rw [List.filter_eq_nil_iff]
    intro i hi
    rw [gd ls i (by rw [hs ls a w hI]; exact List.mem_range.1 hi), hall i (List.mem_range.1 hi)]
    simp
  | succ fuel ih =>
    intro ls a w hI hc
    have hsz := hs ls a w hI
    refine ⟨fun hr => hend ls a w hI (hready ls hsz hr), fun i hi => ?_⟩
    unfold Region.ready at hi
    rw [List.mem_filter, List.mem_range] at hi
    obtain ⟨h1, h2⟩ := hi
    rw [gd ls i (by omega)] at h2
    simp only [Bool.and_eq_true, Bool.not_eq_true'] at h2
    obtain ⟨h2, h3⟩ := h2
    refine wpOp_mono ?_ (hstep ls a w i hI h1 h2 ?_)
    · intro a' w' hI'
      refine ih _ a' w' hI' ?_
      have := countP_less (f := fun j => !ls.getD j false) (g := fun j => !(ls.setIfInBounds i true).getD j false) (i := i) (fun j hj => by
        rw [getD_set ls i j false (by omega)] at hj
        by_cases hji : j = i
        · simp [hji] at hj
        · simpa [hji] using hj) (by simp [h2]) (by rw [getD_set ls i i false (by omega)]; simp) (List.range ops.size) (List.mem_range.2 h1)
      omega
    · intro o ho e he hb
      rw [ho] at h3
      simp only [Option.map_some, Option.getD_some, Array.all_eq_true', Bool.or_eq_true, Bool.not_eq_true'] at h3
      rcases h3 e he with h | h
      · rw [hb] at h; cases h
      · exact h
theorem wpOp_run {i : Nat} {o : Oper} {v : Value} {a : Act} {w w' : World} {K : Act → World → Prop} (ho : ops[i]? = some o) (hg : o.guard = none) (hr : (execOp a.eval o).run P w = .ok (.value v) w') (h : K (a.put o.dst v) w') : wpOp P ops Q i K a w := by
  unfold wpOp
  rw [ho]
  simp only [Region.wanted, hg, if_true, Oper.wp, hr, Oper.upon]
  exact .inl h
end
end Go.Proofs.Qxb6613595aFmt
