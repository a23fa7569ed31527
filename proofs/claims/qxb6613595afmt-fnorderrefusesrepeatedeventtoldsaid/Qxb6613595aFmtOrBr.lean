import Derived.Test.Qxb6613595aFmtOrKn
import Derived.OrdersIn
namespace Go.Proofs.Qxb6613595aFmt
open Go.RowKit Go.Maps
set_option linter.unusedVariables false

section
variable {P : Program} {ops : Array Oper} {Q : Exit → Act → World → Prop} {md : Region.Mode} {n l : Nat}
/-- An operation that hands over a value does so in a round, too. -/
theorem wpOpIn_run {i : Nat} {o : Oper} {v : Value} {a : Act} {w w' : World} {K : Act → World → Prop} (ho : ops[i]? = some o) (hg : o.guard = none) (hd : ∀ c, o.op ≠ .defer c) (hr : (execOp a.eval o).run P w = .ok (.value v) w') (h : K (a.put o.dst v) w') : wpOpIn (Fence.wide.inRound l) n P ops Q i K a w := by
  unfold wpOpIn
  rw [ho]
  simp only [Region.wanted, hg, if_true, Oper.wpIn, Oper.semAt_eq _ _ _ hd, hr, Oper.uponIn]
  exact ⟨fun _ _ => trivial, h⟩
theorem wpOpIn_skip {i : Nat} {o : Oper} {a : Act} {w w' : World} {K : Act → World → Prop} (ho : ops[i]? = some o) (hg : o.guard = none) (hd : ∀ c, o.op ≠ .defer c) (hr : (execOp a.eval o).run P w = .ok .skip w') (h : K (a.put o.dst undef) w') : wpOpIn (Fence.wide.inRound l) n P ops Q i K a w := by
  unfold wpOpIn
  rw [ho]
  simp only [Region.wanted, hg, if_true, Oper.wpIn, Oper.semAt_eq _ _ _ hd, hr, Oper.uponIn]
  exact ⟨fun _ _ => trivial, h⟩
/-- A region in whatever order, in a round. -/
theorem wpAnyIn_inv {F : Fence} (Inv : Array Bool → Act → World → Prop) (hs : ∀ ls a w, Inv ls a w → ls.size = ops.size) (hacy : ∀ i o, ops[i]? = some o → ∀ e ∈ o.after, Region.binds md e = true → e.on < i)
    (hstep : ∀ ls a w i, Inv ls a w → i < ops.size → ls.getD i false = false → (∀ o, ops[i]? = some o → ∀ e ∈ o.after, Region.binds md e = true → ls.getD e.on false = true) → wpOpIn F n P ops Q i (fun a' w' => Inv (ls.setIfInBounds i true) a' w') a w)
    (hend : ∀ ls a w, Inv ls a w → (∀ i, i < ops.size → ls.getD i false = true) → Q .normal a w) :
    ∀ (fuel : Nat) (ls : Array Bool) (a : Act) (w : World), Inv ls a w → (List.range ops.size).countP (fun i => !ls.getD i false) ≤ fuel → wpAnyIn F n P md ops Q fuel ls a w := by
  have gd : ∀ (ls : Array Bool) i, i < ls.size → ls.getD i true = ls.getD i false := fun ls i hi => by simp [Array.getD_eq_getD_getElem?, hi]
  have hready : ∀ ls : Array Bool, ls.size = ops.size → Region.ready md ops ls = [] → ∀ i, i < ops.size → ls.getD i false = true := by
    intro ls hsz hr i
    induction i using Nat.strongRecOn with
    | _ i ih =>
      intro hi
      cases hc : ls.getD i false with
      | true => rfl
      | false =>
        exfalso
        have hm : i ∈ Region.ready md ops ls := by
          unfold Region.ready
          rw [List.mem_filter]
          refine ⟨List.mem_range.2 hi, ?_⟩
          rw [gd ls i (by omega), hc]
          have ho : ops[i]? = some ops[i] := Array.getElem?_eq_getElem hi
          rw [ho]
          simp only [Bool.not_false, Option.map_some, Option.getD_some, Bool.true_and, Array.all_eq_true', Bool.or_eq_true, Bool.not_eq_true']
          intro e he
          cases hb : Region.binds md e with
          | false => exact .inl rfl
          | true => exact .inr (ih e.on (hacy i _ ho e he hb) (by have := hacy i _ ho e he hb; omega))
        rw [hr] at hm
        cases hm
  intro fuel
  induction fuel with
  | zero =>
    intro ls a w hI hc
    have hall : ∀ i, i < ops.size → ls.getD i false = true := fun i hi => by
      have h0 := List.countP_eq_zero.1 (Nat.le_zero.1 hc) i (List.mem_range.2 hi)
      simpa using h0
    refine ⟨?_, hend ls a w hI hall⟩
    unfold Region.ready
    rw [List.filter_eq_nil_iff]
    intro i hi
    rw [gd ls i (by rw [hs ls a w hI]; exact List.mem_range.1 hi), hall i (List.mem_range.1 hi)]
    simp
  | succ fuel ih =>
    intro ls a w hI hc
    have hsz := hs ls a w hI
    refine ⟨fun hr => hend ls a w hI (hready ls hsz hr), fun i hi => ?_⟩
    unfold Region.ready at hi
    rw [List.mem_filter, List.mem_range] at hi
    obtain ⟨h1, h2⟩ := hi
    rw [gd ls i (by omega)] at h2
    simp only [Bool.and_eq_true, Bool.not_eq_true'] at h2
    obtain ⟨h2, h3⟩ := h2
    refine wpOpIn_mono ?_ (hstep ls a w i hI h1 h2 ?_)
    · intro a' w' hI'
      refine ih _ a' w' hI' ?_
      have := countP_less (f := fun j => !ls.getD j false) (g := fun j => !(ls.setIfInBounds i true).getD j false) (i := i) (fun j hj => by
        rw [getD_set ls i j false (by omega)] at hj
        by_cases hji : j = i
        · simp [hji] at hj
        · simpa [hji] using hj) (by simp [h2]) (by rw [getD_set ls i i false (by omega)]; simp) (List.range ops.size) (List.mem_range.2 h1)
      omega
    · intro o ho e he hb
      rw [ho] at h3
      simp only [Option.map_some, Option.getD_some, Array.all_eq_true', Bool.or_eq_true, Bool.not_eq_true'] at h3
      rcases h3 e he with h | h
      · rw [hb] at h; cases h
      · exact h
end

section
variable {ops : Array Oper} {Q : Exit → Act → World → Prop} {n l : Nat} {i : Nat} {o : Oper} {v : Value} {a : Act} {w : World} {K : Act → World → Prop}
theorem opIn_move (ho : ops[i]? = some o) (hg : o.guard = none) (s : Operand) (hop : o.op = .move s) (hs : a.eval s = v) (h : K (a.put o.dst v) w) : wpOpIn (Fence.wide.inRound l) n Tryf.prog ops Q i K a w :=
  wpOpIn_run ho hg (fun c => by rw [hop]; simp) (by simp [execOp, hop, hs]) h
theorem opIn_nil (ho : ops[i]? = some o) (hg : o.guard = none) (s : Operand) (hop : o.op = .nilCheck s) (b k : Nat) (hs : a.eval s = .pointer (some ⟨b, k, none⟩)) (h : K (a.put o.dst (.pointer (some ⟨b, k, none⟩))) w) : wpOpIn (Fence.wide.inRound l) n Tryf.prog ops Q i K a w := by
  refine wpOpIn_run ho hg (fun c => by rw [hop]; simp) ?_ h
  unfold execOp
  rw [hop]
  dsimp only
  rw [hs]
  simp [go_sem]
theorem opIn_load (ho : ops[i]? = some o) (hg : o.guard = none) (T : TypeId) (hT : T = 76 ∨ T = 34 ∨ T = 45 ∨ T = 3) (s : Operand) (hop : o.op = .load T s) (b k : Nat) (hs : a.eval s = .pointer (some ⟨b, k, none⟩)) (hc : w.cell? ⟨b, k, none⟩ = some v) (h : K (a.put o.dst v) w) : wpOpIn (Fence.wide.inRound l) n Tryf.prog ops Q i K a w := by
  refine wpOpIn_run ho hg (fun c => by rw [hop]; simp) ?_ h
  unfold execOp
  rw [hop]
  dsimp only
  rw [hs]
  rcases hT with rfl | rfl | rfl | rfl <;> simp [go_sem, hc]
theorem opIn_field (ho : ops[i]? = some o) (hg : o.guard = none) (s : Operand) (f : Nat) (hop : o.op = .fieldAddr 104 s f) (hf : f < 5) (b : Nat) (hs : a.eval s = .pointer (some ⟨b, 0, none⟩)) (h : K (a.put o.dst (.pointer (some ⟨b, f, none⟩))) w) : wpOpIn (Fence.wide.inRound l) n Tryf.prog ops Q i K a w := by
  refine wpOpIn_run ho hg (fun c => by rw [hop]; simp) ?_ h
  unfold execOp
  rw [hop]
  dsimp only
  rw [hs]
  rcases (by omega : f = 0 ∨ f = 1 ∨ f = 2 ∨ f = 3 ∨ f = 4) with rfl | rfl | rfl | rfl | rfl <;> simp [go_sem]
theorem opIn_index (ho : ops[i]? = some o) (hg : o.guard = none) (T : TypeId) (hT : T = 34 ∨ T = 45) (s x : Operand) (hop : o.op = .indexAddr T s x) (b j H : Nat) (hs : a.eval s = .slice (some ⟨b, 0, none⟩) H H) (hx : a.eval x = .int .i64 (j : Nat)) (hj : j < H) (h : K (a.put o.dst (.pointer (some ⟨b, j, none⟩))) w) : wpOpIn (Fence.wide.inRound l) n Tryf.prog ops Q i K a w := by
  refine wpOpIn_run ho hg (fun c => by rw [hop]; simp) ?_ h
  unfold execOp
  rw [hop]
  dsimp only
  rw [hs, hx]
  have : (j : Int) < (H : Int) := by omega
  rcases hT with rfl | rfl <;> simp [go_sem, this]
theorem opIn_store42 (ho : ops[i]? = some o) (hg : o.guard = none) (s x : Operand) (hop : o.op = .store 42 s x) (b k y : Nat) (hs : a.eval s = .pointer (some ⟨b, k, none⟩)) (hx : a.eval x = .int .u64 (y : Nat)) (u : Value) (hc : w.cell? ⟨b, k, none⟩ = some u) (hf : w.frozen? ⟨b, k, none⟩ = false) (h : K (a.put o.dst undef) (w.setCell ⟨b, k, none⟩ (.int .u64 (y : Nat)))) : wpOpIn (Fence.wide.inRound l) n Tryf.prog ops Q i K a w := by
  refine wpOpIn_skip ho hg (fun c => by rw [hop]; simp) ?_ h
  unfold execOp
  rw [hop]
  dsimp only
  rw [hs, hx]
  simp [go_sem, hc, hf]
theorem opIn_store3 (ho : ops[i]? = some o) (hg : o.guard = none) (s x : Operand) (hop : o.op = .store 3 s x) (b k y : Nat) (hs : a.eval s = .pointer (some ⟨b, k, none⟩)) (hx : a.eval x = .int .i64 (y : Nat)) (u : Value) (hc : w.cell? ⟨b, k, none⟩ = some u) (hf : w.frozen? ⟨b, k, none⟩ = false) (h : K (a.put o.dst undef) (w.setCell ⟨b, k, none⟩ (.int .i64 (y : Nat)))) : wpOpIn (Fence.wide.inRound l) n Tryf.prog ops Q i K a w := by
  refine wpOpIn_skip ho hg (fun c => by rw [hop]; simp) ?_ h
  unfold execOp
  rw [hop]
  dsimp only
  rw [hs, hx]
  simp [go_sem, hc, hf]
end
end Go.Proofs.Qxb6613595aFmt
