import Derived.Test.Qxb6613595aFmtOrMk
namespace Go.Proofs.Qxb6613595aFmt
open Go.RowKit Go.Maps

/-- What follows the region n in a row of statements, and the region itself. -/
def after (n : Nat) : Code → Code
  | .seq (.region k _ _) r => if k = n then r else after n r
  | .seq _ r => after n r
  | c => c
def regionAt (n : Nat) : Code → Code
  | .seq (.region k o d) r => if k = n then .region k o d else regionAt n r
  | .seq _ r => regionAt n r
  | c => c
def regOps : Code → Array Oper
  | .region _ o _ => o
  | _ => #[]
def mk1 (fF : Func) : Code := regionAt 1 (fF.body.getD .skip)
def ops1 (fF : Func) : Array Oper := regOps (mk1 fF)
def frm (ev : Value) (x : Nat → Value) : Act := { tmps := #[ev, undef, .pointer none, x 22, undef, undef, undef, undef, undef, undef, undef, undef, undef, undef, undef, undef, undef, undef, x 0, x 1, x 2, x 3, x 4, x 5, x 6, x 7, x 8, x 9, x 10, x 11, x 12, x 13, x 14, x 15, x 16, x 17, x 18, x 19, x 20, x 21, undef, undef, undef, undef, undef, undef, undef, undef, undef, undef, undef, undef, undef, undef, undef, undef, undef, undef, undef, undef, undef, undef, undef, undef, undef, undef, undef, undef, undef, undef, undef, undef, undef, undef, undef, undef, undef, undef, undef, undef, undef, undef, undef, undef, undef, undef, undef, undef, undef, undef, undef, undef, undef, undef, undef, undef, undef, undef, undef, undef, undef, undef, undef, undef, undef, undef, undef, undef, undef, undef, undef, undef, undef, undef, undef, undef, undef, undef, undef, undef, undef, undef, undef, undef, undef, undef, undef, undef, undef, undef, undef, undef, undef, undef, undef, undef, undef, undef, undef, undef, undef, undef, undef, undef, undef, undef, undef, undef, undef, undef, undef, undef, undef, undef, undef, undef, undef, undef, undef, undef, undef, undef, undef, undef, undef, undef, undef, undef, undef, undef, undef, undef, undef, undef, undef, undef, undef, undef, undef, undef, undef, undef, undef, undef, undef, undef, undef, undef, undef, undef, undef, undef, undef, undef, undef, undef, undef, undef, undef, undef, undef, undef, undef, undef, undef, undef, undef, undef, undef, undef, undef, undef, undef, undef, undef, undef, undef, undef, undef, undef, undef], defers := [] }

theorem size1 : (ops1 Tryf.f16).size = 23 := rfl
set_option maxRecDepth 20000 in
theorem acy1 : ∀ i o, (ops1 Tryf.f16)[i]? = some o → ∀ e ∈ o.after, Region.binds .any e = true → e.on < i := by
  have h : (List.range 23).all (fun i => (((ops1 Tryf.f16)[i]?).map (fun o => o.after.all (fun e => !Region.binds .any e || decide (e.on < i)))).getD true) = true := by kernel_rfl
  intro i o ho e he hb
  have hi : i < 23 := by
    have := (Array.getElem?_eq_some_iff.1 ho).1
    rw [size1] at this
    exact this
  have h2 := List.all_eq_true.1 h i (List.mem_range.2 hi)
  rw [ho] at h2
  simp only [Option.map_some, Option.getD_some, Array.all_eq_true', Bool.or_eq_true, Bool.not_eq_true', decide_eq_true_eq] at h2
  rcases h2 e he with h3 | h3
  · rw [hb] at h3; cases h3
  · exact h3

section
variable {P : Program} {ops : Array Oper} {Q : Exit → Act → World → Prop} {K : Act → World → Prop} {i : Nat} {o : Oper} {a : Act} {w w' : World} {v : Value}
theorem wpOp_move (ho : ops[i]? = some o) (hg : o.guard = none) (s : Operand) (hop : o.op = .move s) (hs : a.eval s = v) (h : K (a.put o.dst v) w) : wpOp P ops Q i K a w := by
  refine wpOp_run ho hg ?_ h
  simp [execOp, hop, hs]
theorem wpOp_assign (ho : ops[i]? = some o) (hg : o.guard = none) (s : Operand) (hop : o.op = .assign s) (hs : a.eval s = v) (h : K (a.put o.dst v) w) : wpOp P ops Q i K a w := by
  refine wpOp_run ho hg ?_ h
  simp [execOp, hop, hs]
theorem wpOp_len (ho : ops[i]? = some o) (hg : o.guard = none) (s : Operand) (t e : TypeId) (hop : o.op = .call { callee := .builtin .len, args := #[s], argTypes := #[t] }) (ht : P.underlying t = some (.slice e)) (p : Option Addr) (n c : Nat) (hs : a.eval s = .slice p n c) (h : K (a.put o.dst (.int .i64 n)) w) : wpOp P ops Q i K a w := by
  refine wpOp_run ho hg ?_ h
  simp [execOp, hop, hs, resolve, invoke, builtin, Builtin.len_, run_underlying ht, goInt]
theorem wpOp_make (ho : ops[i]? = some o) (hg : o.guard = none) (T : TypeId) (l c : Operand) (hop : o.op = .makeSlice T l c) (vl vc : Value) (hl : a.eval l = vl) (hc : a.eval c = vc) (hr : (Instr.makeSlice T vl vc).run P w = .ok v w') (h : K (a.put o.dst v) w') : wpOp P ops Q i K a w := by
  refine wpOp_run ho hg ?_ h
  simp [execOp, hop, hl, hc, hr]
theorem wpOp_map0 (ho : ops[i]? = some o) (hg : o.guard = none) (T : TypeId) (hop : o.op = .makeMap T none) (h : K (a.put o.dst (.map (some w.heap.size))) (w.alloc (.map #[] 0))) : wpOp P ops Q i K a w := by
  refine wpOp_run ho hg ?_ h
  simp [execOp, hop, run_makeMap]
theorem wpOp_map1 (ho : ops[i]? = some o) (hg : o.guard = none) (T k e : TypeId) (l : Operand) (hop : o.op = .makeMap T (some l)) (ht : P.underlying T = some (.map k e)) (n : Nat) (hl : a.eval l = .int .i64 n) (h : K (a.put o.dst (.map (some w.heap.size))) (w.alloc (.map #[] 0))) : wpOp P ops Q i K a w := by
  refine wpOp_run ho hg ?_ h
  simp [execOp, hop, hl, Instr.makeMap, run_underlying ht, asInt, asIntOf]
theorem wpOp_box (ho : ops[i]? = some o) (hg : o.guard = none) (T : TypeId) (s : Operand) (hop : o.op = .box T s) (cs : Array Value) (hs : a.eval s = .agg cs) (h : K (a.put o.dst (.pointer (some ⟨w.heap.size, 0, none⟩))) (w.alloc (.cells cs T))) : wpOp P ops Q i K a w := by
  refine wpOp_run ho hg ?_ h
  simp [execOp, hop, hs, Instr.box, newVar, newRow, Value.cells]
theorem wpOp_build (ho : ops[i]? = some o) (hg : o.guard = none) (T : TypeId) (fs : Array (Nat × Operand)) (hop : o.op = .build T fs) (vs : Array (Nat × Value)) (hs : fs.map (fun p => (p.1, a.eval p.2)) = vs) (hr : (Instr.build T vs).run P w = .ok v w) (h : K (a.put o.dst v) w) : wpOp P ops Q i K a w := by
  refine wpOp_run ho hg ?_ h
  subst hs
  simp [execOp, hop, hr]
end
set_option maxRecDepth 20000 in
theorem build1 (v0 v1 v2 v3 v4 v5 v6 v7 : Value) (a0 a1 a2 a3 a4 a5 a6 a7 N C : Nat) (e0 : v0 = .slice (some ⟨a0, 0, none⟩) N C) (e1 : v1 = .map (some a1)) (e4 : v2 = .slice (some ⟨a2, 0, none⟩) N N) (e7 : v3 = .slice (some ⟨a3, 0, none⟩) N N) (e10 : v4 = .slice (some ⟨a4, 0, none⟩) N N) (e13 : v5 = .slice (some ⟨a5, 0, none⟩) N N) (e16 : v6 = .map (some a6)) (e19 : v7 = .slice (some ⟨a7, 0, none⟩) N N) (w : World) :
   (Instr.build 73 #[(0, v0), (1, v1), (2, v2), (3, v3), (4, v4), (5, v5), (6, v6), (7, v7)]).run Tryf.prog w = .ok (.agg #[v0, v1, v2, v3, v4, v5, v6, v7, .slice none 0 0]) w := by
  subst e0 e1 e4 e7 e10 e13 e16 e19
  kernel_rfl
end Go.Proofs.Qxb6613595aFmt
