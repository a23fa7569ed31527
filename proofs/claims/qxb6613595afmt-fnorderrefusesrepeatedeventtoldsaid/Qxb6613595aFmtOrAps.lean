import Derived.Test.Qxb6613595aFmtOrNm
import Derived.Maps.AppendAt
namespace Go.Proofs.Qxb6613595aFmt
open Go.RowKit Go.Maps Go.Shelf
attribute [local go_sem] Oper.semAt_some
set_option linter.unusedVariables false

section
variable {F : Fence} {n : Nat} {P : Program} {w w' : World} {ops : Array Oper} {rest : List Oper} {o : Oper} {a : Act} {Q : Exit → Act → World → Prop}
/-- A builtin append whose run is known, in a round. -/
theorem wpListIn_append_run {l : Nat} (hgd : o.guard = none) (s x : Operand) (t u : TypeId) (ho : o.op = .call { callee := .builtin .append, args := #[s, x], argTypes := #[t, u] }) (v xv v' : Value) (hs : a.eval s = v) (hx : a.eval x = xv)
    (hr : (Builtin.append_ #[t, u] o.type #[v, xv]).run P w = .ok v' w') (h : wpListIn (Fence.wide.inRound l) n P ops Q rest (a.put o.dst v') w') : wpListIn (Fence.wide.inRound l) n P ops Q (o :: rest) a w := by
  unfold wpListIn
  rw [if_pos (by simp [Region.wanted, hgd])]
  refine ⟨fun _ _ => trivial, ?_⟩
  rw [Oper.semAt_eq _ _ _ (fun c => by rw [ho]; simp)]
  have : (execOp a.eval o).run P w = .ok (.value v') w' := by
    unfold execOp
    simp only [ho, resolve, invoke, builtin, Sem.run_bind, Sem.run_pure, Result.andThen_ok, List.map_toArray, List.map_cons, List.map_nil, hs, hx, hr]
  rw [this]
  exact h
end

/-- Pairs in a row. -/
def flatN {H N : Nat} (xs : List (NE H N)) : List Value := xs.flatMap fun x => [.int .i64 (x.1.1 : Nat), .int .i64 (x.1.2 : Nat)]
theorem flatN_snoc {H N : Nat} (xs : List (NE H N)) (x : NE H N) : flatN (xs ++ [x]) = flatN xs ++ [.int .i64 (x.1.1 : Nat), .int .i64 (x.1.2 : Nat)] := by simp [flatN]
theorem i52 : (Tryf.prog.info? 52).map (fun i => (i.zero, i.size, i.bytes)) = some (some (.agg #[.int .i64 0, .int .i64 0]), 2, 16) := by kernel_rfl
theorem own_keep {w w' : World} {base : Nat} {e : TypeId} {size : Nat} {v : Value} {n : Nat} {xs : List Value} (h : w.ownsRow base e size v n xs)
    (hk : ∀ b c, base ≤ b → w.heap[b]? = some (.cells c e (0, 0)) → some b = v.ownBlock → w'.heap[b]? = some (.cells c e (0, 0))) : w'.ownsRow base e size v n xs := by
  refine ⟨h.1, ?_⟩
  rcases h.2 with hn | ⟨g, cap, cur, rfl, hb, hgg, rest⟩
  · exact .inl hn
  · exact .inr ⟨g, cap, cur, rfl, hb, hk _ _ hb hgg rfl, rest⟩
theorem own_shape {w : World} {base : Nat} {e : TypeId} {size : Nat} {v : Value} {n : Nat} {xs : List Value} (h : w.ownsRow base e size v n xs) : ∃ q c, v = .slice q n c := by
  rcases h.2 with ⟨rfl, rfl⟩ | ⟨g, cap, cur, rfl, _⟩
  · exact ⟨_, _, rfl⟩
  · exact ⟨_, _, rfl⟩
theorem own_tag {w : World} {base : Nat} {e : TypeId} {size : Nat} {v : Value} {n : Nat} {xs : List Value} (h : w.ownsRow base e size v n xs) {k : Nat} (hk : v.ownBlock = some k) : base ≤ k ∧ ∃ c, w.heap[k]? = some (.cells c e (0, 0)) := by
  rcases h.2 with ⟨rfl, _⟩ | ⟨g, cap, cur, rfl, hb, hgg, rest⟩
  · simp [Value.ownBlock] at hk
  · simp [Value.ownBlock] at hk; subst hk; exact ⟨hb, cur, hgg⟩

/-- What lay is as it was, but for one row. -/
structure FrA (ob : Option Nat) (w W : World) : Prop where
  os : W.os = w.os
  tape : W.tape = w.tape
  output : W.output = w.output
  size : w.heap.size ≤ W.heap.size
  blk : ∀ b, b < w.heap.size → some b ≠ ob → W.heap[b]? = w.heap[b]?

/-- The loop's own state. -/
structure JA {H N : Nat} (B bs l Dd z : Nat) (rec : Loop) (s0 : Value) (w : World) (M : Nat) (pre : List (NE H N)) (W : World) : Prop where
  ex : ∃ v, W.heap[bs]? = some (.cells #[v] 102 (0, 0)) ∧ W.ownsRow B 52 2 v pre.length (flatN pre) ∧ (v.ownBlock = s0.ownBlock ∨ ∃ b, v.ownBlock = some b ∧ z ≤ b ∧ M ≤ b) ∧ (pre = [] → v = s0)
  lp : W.heap[l]? = some (.loop rec)
  df : W.heap[Dd]? = some (.deferred (some []))
  fr : FrA s0.ownBlock w W
  sz : z ≤ W.heap.size
  ln : pre.length ≤ 1048577

theorem JA.own {H N : Nat} {B bs l Dd z : Nat} {rec : Loop} {s0 : Value} {w : World} (M : Nat) (hbs : bs < z) (hl : l < z) (hD : Dd < z) (hw : w.heap.size ≤ z) : OwnFrom z (JA (H := H) (N := N) B bs l Dd z rec s0 w M) := by
  rintro pre X Y row ⟨⟨v, h1, h2, h3, h4⟩, h5, h6, h7, h8, h9⟩ hg hr
  have keep : ∀ b, b < z → Y.heap[b]? = X.heap[b]? := fun b hb => hg.block b (by omega) (fun e => by have := (hr b e.symm).1; omega)
  refine ⟨⟨v, (keep bs hbs).trans h1, own_keep h2 fun b c hb hc ho => ?_, h3, h4⟩, (keep l hl).trans h5, (keep Dd hD).trans h6, ⟨hg.os.trans h7.os, hg.tape.trans h7.tape, hg.output.trans h7.output, Nat.le_trans h7.size hg.size, fun b hb hne => (keep b (by omega)).trans (h7.blk b hb hne)⟩, Nat.le_trans h8 hg.size, h9⟩
  refine (hg.block b (blk_lt hc) (fun e => ?_)).trans hc
  obtain ⟨_, o, ho1, ho2⟩ := hr b e.symm
  rw [hc] at ho1
  cases ho1
  cases ho2
theorem JA.up {H N : Nat} {B bs l Dd z : Nat} {rec : Loop} {s0 : Value} {w : World} (M : Nat) {W : World} (h : JA (H := H) (N := N) B bs l Dd z rec s0 w 0 [] W) : JA (H := H) (N := N) B bs l Dd z rec s0 w M [] W := by
  obtain ⟨⟨v, h1, h2, h3, h4⟩, h5, h6, h7, h8, h9⟩ := h
  exact ⟨⟨v, h1, h2, .inl (by rw [h4 rfl]), h4⟩, h5, h6, h7, h8, h9⟩
/-- The loop of slices.AppendSeq. -/
def rf39 (fF : Func) : Code := inB (sndC (fstC (sndC (fF.body.getD .skip))))
def asgOf : Code → Code
  | .rangeFunc _ _ a _ => a
  | c => c
def asg39 (fF : Func) : Code := asgOf (rf39 fF)
def bdy39 (fF : Func) : Code := bodyOf (rf39 fF)
def T39 (s0 clo : Value) (bs : Nat) (x5 x7 x8 x9 x10 x11 : Value) : Array Value := #[s0, clo, .pointer (some ⟨bs, 0, none⟩), undef, .slice none 0 0, x5, clo, x7, x8, x9, x10, x11, undef]

set_option maxRecDepth 20000 in
theorem asg39_any (l m bs h j : Nat) (s0 clo : Value) (W : World) (K : Act → World → Prop) (hK : K { tmps := T39 s0 clo bs (.pointer (some ⟨W.heap.size, 0, none⟩)) (.agg #[.int .i64 (h : Nat), .int .i64 (j : Nat)]) undef undef undef undef, defers := [] } (W.alloc (.cells #[.int .i64 (h : Nat), .int .i64 (j : Nat)] 52))) :
    (asg39 Tryf.f39).wpIn (Fence.wide.inRound l) m Tryf.prog (Exit.then K (fun _ _ _ => False)) { tmps := T39 s0 clo bs undef (.agg #[.int .i64 (h : Nat), .int .i64 (j : Nat)]) undef undef undef undef, defers := [] } W := by
  have e : (asg39 Tryf.f39) = (asg39 Tryf.f39) := rfl
  conv at e => rhs; whnf
  rw [e]
  clear e
  unfold T39 at *
  gi_wp2
  exact hK

set_option maxRecDepth 20000 in
theorem bdy39_any (l m bs bv h j : Nat) (s0 clo : Value) (q q' : Option Addr) (k c k' c' : Nat) (W W' : World) (Q : Exit → Act → World → Prop)
    (h1 : W.cell? ⟨bs, 0, none⟩ = some (.slice q k c)) (h2 : W.cell? ⟨bv, 0, none⟩ = some (.int .i64 (h : Nat))) (h3 : W.cell? ⟨bv, 1, none⟩ = some (.int .i64 (j : Nat)))
    (hr : (Builtin.append_ #[102, 102] 102 #[.slice q k c, .slice (some ⟨W.heap.size, 0, none⟩) 1 1]).run Tryf.prog (W.alloc (.cells #[.int .i64 (h : Nat), .int .i64 (j : Nat)] 52)) = .ok (.slice q' k' c') W')
    (h4 : W'.cell? ⟨bs, 0, none⟩ = some (.slice q k c)) (h5 : W'.frozen? ⟨bs, 0, none⟩ = false) (hQ : ∀ a, Q .normal a (W'.setCell ⟨bs, 0, none⟩ (.slice q' k' c'))) :
    (bdy39 Tryf.f39).wpIn (Fence.wide.inRound l) m Tryf.prog Q { tmps := T39 s0 clo bs (.pointer (some ⟨bv, 0, none⟩)) (.agg #[.int .i64 (h : Nat), .int .i64 (j : Nat)]) undef undef undef undef, defers := [] } W := by
  have e : (bdy39 Tryf.f39) = (bdy39 Tryf.f39) := rfl
  conv at e => rhs; whnf
  rw [e]
  clear e
  unfold T39
  have HR : Hid _ := hr
  clear hr
  gi_wp2_with (gi_at_builtin; refine wpListIn_append_run rfl _ _ 102 102 rfl _ _ _ rfl rfl HR.out ?_)
  exact hQ _

theorem put_other {W : World} {l k : Nat} {o : Obj} (h : k ≠ l) : (W.putObj l o).heap[k]? = W.heap[k]? := World.putObj_heap_other h
def rec39 (fF : Func) (fn : FuncId) (s0 clo : Value) (bs Dd : Nat) : Loop := { state := .ready, pending := none, fn, tmps := T39 s0 clo bs undef undef undef undef undef undef, params := #[7], assign := (asg39 fF), body := (bdy39 fF), defers := Dd }

set_option maxRecDepth 20000 in
set_option maxHeartbeats 4000000 in
theorem aps_yield {H N : Nat} (m B bs l Dd z bx M : Nat) (fn : FuncId) (s0 clo : Value) (w : World) (hb1 : B ≤ bs) (hb2 : bs < z) (hl1 : B ≤ l) (hl2 : l < z) (hbl : bs ≠ l) (hDb : Dd ≠ bs) (hDl : Dd ≠ l) (hDz : Dd < z) (hw1 : w.heap.size ≤ bs) (hw2 : w.heap.size ≤ l) (hw3 : w.heap.size ≤ Dd) (hBw : B ≤ w.heap.size) (hbx : bx < w.heap.size) (hbo : some bx ≠ s0.ownBlock) (hs0 : ∀ b, s0.ownBlock = some b → b < w.heap.size)
    (pre : List (NE H N)) (x : NE H N) (W : World) (hM : M ≤ W.heap.size) (hp : pre.length < 1048577) (hJ : JA B bs l Dd z ((rec39 Tryf.f39) fn s0 clo bs Dd) s0 w M pre W) :
    YieldAt Fence.wide m Tryf.prog l (encNE x) W fun e W' => e = .returned (.bool true) ∧ JA B bs l Dd z ((rec39 Tryf.f39) fn s0 clo bs Dd) s0 w M (pre ++ [x]) W' ∧ Below B W W' ∧ (∀ k, z ≤ k → k < M → W'.heap[k]? = W.heap[k]?) ∧ (∀ k o, k ≠ l → W.heap[k]? = some o → o.isCells = false → W'.heap[k]? = some o) ∧ W.heap.size ≤ W'.heap.size ∧ W'.heap[bx]? = W.heap[bx]? := by
  obtain ⟨⟨v, j1, j2, j3, j4⟩, j5, j6, j7, j8, j9⟩ := hJ
  obtain ⟨⟨x1, x2⟩, x3⟩ := x
  have hy := run_yield (P := Tryf.prog) (args := encNE (H := H) (N := N) ⟨(x1, x2), x3⟩) j5 rfl
  have et : (((rec39 Tryf.f39) fn s0 clo bs Dd).params.zip (encNE (H := H) (N := N) ⟨(x1, x2), x3⟩)).foldl (fun tmps (t, a) => tmps.setIfInBounds t a) ((rec39 Tryf.f39) fn s0 clo bs Dd).tmps = T39 s0 clo bs undef (.agg #[.int .i64 (x1 : Nat), .int .i64 (x2 : Nat)]) undef undef undef undef := by
    simp [rec39, T39, encNE]
  rw [et] at hy
  refine ⟨fn, _, (asg39 Tryf.f39), (bdy39 Tryf.f39), hy, roundIn_of_wpIn trivial ?_⟩
  refine asg39_any l m bs x1 x2 s0 clo W _ ?_
  obtain ⟨Wa, hWa⟩ : ∃ Wa, W.alloc (.cells #[.int .i64 (x1 : Nat), .int .i64 (x2 : Nat)] 52) = Wa := ⟨_, rfl⟩
  rw [hWa]
  have a1 : ∀ k, k < W.heap.size → Wa.heap[k]? = W.heap[k]? := fun k hk => by rw [← hWa]; exact Below.heap_alloc W _ k hk
  have a2 : Wa.heap.size = W.heap.size + 1 := by rw [← hWa]; simp
  have a3 : Wa.heap[W.heap.size]? = some (.cells #[.int .i64 (x1 : Nat), .int .i64 (x2 : Nat)] 52 (0, 0)) := by rw [← hWa]; exact heap_alloc_new W _
  have a4 : Wa.heap[l]? = _ := (a1 l (by omega)).trans j5
  refine ⟨_, run_beginRound a4 rfl, ?_⟩
  obtain ⟨Wb, hWb⟩ : ∃ Wb, Wa.putObj l (.loop { (rec39 Tryf.f39) fn s0 clo bs Dd with state := .busy }) = Wb := ⟨_, rfl⟩
  rw [hWb]
  have b1 : ∀ k, k ≠ l → Wb.heap[k]? = Wa.heap[k]? := fun k hk => by rw [← hWb]; exact put_other hk
  have b2 : Wb.heap.size = W.heap.size + 1 := by rw [← hWb]; simp [a2]
  have b3 : Wb.heap[l]? = some (.loop { (rec39 Tryf.f39) fn s0 clo bs Dd with state := .busy }) := by rw [← hWb]; exact World.putObj_heap_same (blk_lt a4)
  have b4 : Wb.os = W.os ∧ Wb.tape = W.tape ∧ Wb.output = W.output := by rw [← hWb, ← hWa]; exact ⟨rfl, rfl, rfl⟩
  have obl : ∀ b, v.ownBlock = some b → b < W.heap.size ∧ B ≤ b ∧ b ≠ bs ∧ b ≠ l ∧ b ≠ Dd := fun b hb => by
    obtain ⟨t1, c, t2⟩ := own_tag j2 hb
    exact ⟨blk_lt t2, t1, fun e => (by rw [e, j1] at t2; cases t2), fun e => (by rw [e, j5] at t2; cases t2), fun e => (by rw [e, j6] at t2; cases t2)⟩
  have ownb : Wb.ownsRow B 52 2 v pre.length (flatN pre) := own_keep j2 fun b c hb hc ho => by
    obtain ⟨t1, t2, t3, t4, t5⟩ := obl b ho.symm
    exact (b1 b t4).trans ((a1 b t1).trans hc)
  have bsb : Wb.heap[bs]? = some (.cells #[v] 102 (0, 0)) := (b1 bs hbl).trans ((a1 bs (by omega)).trans j1)
  have bvb : Wb.heap[W.heap.size]? = some (.cells #[.int .i64 (x1 : Nat), .int .i64 (x2 : Nat)] 52 (0, 0)) := (b1 _ (by omega)).trans a3
  obtain ⟨i, i1, i2, i3, i4⟩ := info_parts i52
  obtain ⟨Wc, hWc⟩ : ∃ Wc, Wb.alloc (.cells #[.int .i64 (x1 : Nat), .int .i64 (x2 : Nat)] 52) = Wc := ⟨_, rfl⟩
  have c1 : ∀ k, k < Wb.heap.size → Wc.heap[k]? = Wb.heap[k]? := fun k hk => by rw [← hWc]; exact Below.heap_alloc Wb _ k hk
  have c2 : Wc.heap.size = W.heap.size + 2 := by rw [← hWc]; simp [b2]
  have c3 : Wc.os = W.os ∧ Wc.tape = W.tape ∧ Wc.output = W.output := by rw [← hWc]; exact b4
  have c4 : Wc.heap[Wb.heap.size]? = some (.cells #[.int .i64 (x1 : Nat), .int .i64 (x2 : Nat)] 52 (0, 0)) := by rw [← hWc]; exact heap_alloc_new Wb _
  have ownc : Wc.ownsRow B 52 2 v pre.length (flatN pre) := by rw [← hWc]; exact ownb.alloc _
  obtain ⟨v', W', hr, ho, hg, _, hat⟩ := run_append_own_at (P := Tryf.prog) Wc B 102 102 52 i _ 2 16 Tryf.underlying102 i1 i2 i3 i4 rfl (by decide) v pre.length (flatN pre) ownc ⟨Wb.heap.size, 0, none⟩ 1 1 [.int .i64 (x1 : Nat), .int .i64 (x2 : Nat)] rfl
    (fun j u hj => by
      rw [Addr.add_lit, cell_blk c4]
      simpa using hj) (by simp [Value.oneCell']) (by unfold maxLen; omega) (by omega) (by omega)
  obtain ⟨q, cc, rfl⟩ := own_shape j2
  obtain ⟨q', cc', rfl⟩ := own_shape ho
  have e1 : ∀ k, k < W.heap.size + 2 → some k ≠ Value.ownBlock (.slice q pre.length cc) → W'.heap[k]? = Wc.heap[k]? := fun k hk hne => hg.block k (by omega) hne
  have nob : ∀ k, (k = bs ∨ k = l ∨ k = Dd) → some k ≠ Value.ownBlock (.slice q pre.length cc) := fun k hk e => by
    obtain ⟨t1, t2, t3, t4, t5⟩ := obl k e.symm
    omega
  have e2 : W'.heap[bs]? = some (.cells #[.slice q pre.length cc] 102 (0, 0)) := (e1 bs (by omega) (nob bs (by simp))).trans ((c1 bs (by omega)).trans bsb)
  have e3 : W'.heap[l]? = some (.loop { (rec39 Tryf.f39) fn s0 clo bs Dd with state := .busy }) := (e1 l (by omega) (nob l (by simp))).trans ((c1 l (by omega)).trans b3)
  refine bdy39_any l m bs W.heap.size x1 x2 s0 clo q q' _ cc _ cc' Wb W' _ (cell_blk bsb 0) (cell_blk bvb 0) (cell_blk bvb 1) (by rw [hWc]; exact hr) (cell_blk e2 0) (free_blk e2 0) ?_
  intro a
  obtain ⟨We, hWe⟩ : ∃ We, W'.setCell ⟨bs, 0, none⟩ (.slice q' (pre.length + 1) cc') = We := ⟨_, rfl⟩
  rw [hWe]
  have f1 : ∀ k, k ≠ bs → We.heap[k]? = W'.heap[k]? := fun k hk => by rw [← hWe]; exact Below.heap_setCell W' _ _ k hk
  have f2 : We.heap[bs]? = some (.cells #[.slice q' (pre.length + 1) cc'] 102 (0, 0)) := by rw [← hWe]; exact set_blk _ _ _ _ _ _ e2
  have f3 : We.heap.size = W'.heap.size := by rw [← hWe]; simp [World.setCell]
  have f4 : We.heap[l]? = some (.loop { (rec39 Tryf.f39) fn s0 clo bs Dd with state := .busy }) := (f1 l (Ne.symm hbl)).trans e3
  have f5 : We.os = W'.os ∧ We.tape = W'.tape ∧ We.output = W'.output := by rw [← hWe]; exact ⟨rfl, rfl, rfl⟩
  refine ⟨_, _, run_endRound none f4, rfl, ?_⟩
  obtain ⟨Wf, hWf⟩ : ∃ Wf, We.putObj l (.loop { { (rec39 Tryf.f39) fn s0 clo bs Dd with state := .busy } with state := if (none : Option Code).isNone then .ready else .done, pending := none }) = Wf := ⟨_, rfl⟩
  rw [hWf]
  have g1 : ∀ k, k ≠ l → Wf.heap[k]? = We.heap[k]? := fun k hk => by rw [← hWf]; exact put_other hk
  have g2 : Wf.heap[l]? = some (.loop ((rec39 Tryf.f39) fn s0 clo bs Dd)) := by rw [← hWf]; exact World.putObj_heap_same (blk_lt f4)
  have g3 : Wf.heap.size = W'.heap.size := by rw [← hWf]; simp [f3]
  have g4 : Wf.os = W.os ∧ Wf.tape = W.tape ∧ Wf.output = W.output := by
    rw [← hWf]
    exact ⟨f5.1.trans (hg.os.trans c3.1), f5.2.1.trans (hg.tape.trans c3.2.1), f5.2.2.trans (hg.output.trans c3.2.2)⟩
  have gz : W.heap.size ≤ Wf.heap.size := by have := hg.size; omega
  have chain : ∀ k, k < W.heap.size → k ≠ l → k ≠ bs → some k ≠ Value.ownBlock (.slice q pre.length cc) → Wf.heap[k]? = W.heap[k]? := fun k k1 k2 k3 k4 =>
    (g1 k k2).trans ((f1 k k3).trans ((e1 k (by omega) k4).trans ((c1 k (by omega)).trans ((b1 k k2).trans (a1 k k1)))))
  have ownf : Wf.ownsRow B 52 2 (.slice q' (pre.length + 1) cc') (pre.length + 1) (flatN pre ++ [.int .i64 (x1 : Nat), .int .i64 (x2 : Nat)]) := own_keep ho fun b c hb hc hoo => by
    have n1 : b ≠ bs := fun e => by rw [e, e2] at hc; cases hc
    have n2 : b ≠ l := fun e => by rw [e, e3] at hc; cases hc
    exact (g1 b n2).trans ((f1 b n1).trans hc)
  have olow : ∀ b, Value.ownBlock (.slice q pre.length cc) = some b → b < w.heap.size ∨ (z ≤ b ∧ M ≤ b) := fun b hb => by
    rcases j3 with h | ⟨b', h, h2, h3⟩
    · rw [h] at hb; exact .inl (hs0 b hb)
    · rw [h] at hb; cases hb; exact .inr ⟨h2, h3⟩
  refine ⟨⟨⟨_, (g1 bs hbl).trans f2, by rw [flatN_snoc]; simpa using ownf, ?_, fun h => by simp at h⟩, g2, ?_, ⟨g4.1.trans j7.os, g4.2.1.trans j7.tape, g4.2.2.trans j7.output, Nat.le_trans j7.size gz, fun b hb hne => ?_⟩, by omega, by simp; omega⟩, ⟨g4.1, g4.2.1, g4.2.2, gz, fun k hk => ?_⟩, fun k k1 k2 => ?_, fun k o k1 k2 k3 => ?_, gz, ?_⟩
  · rcases hat with h | h
    · rcases j3 with h' | h'
      · exact .inl (h.trans h')
      · obtain ⟨b, t1, t2⟩ := h'
        exact .inr ⟨b, h.trans t1, t2⟩
    · exact .inr ⟨_, h, by omega, by omega⟩
  · refine (chain Dd (by omega) hDl hDb (nob Dd (by simp))).trans j6
  · refine (chain b (by have := j7.size; omega) (by omega) (by omega) (fun e => ?_)).trans (j7.blk b hb hne)
    rcases j3 with h | ⟨b', h, h2, h3⟩
    · rw [h] at e; exact hne e
    · rw [h] at e; cases e; omega
  · exact chain k (by omega) (by omega) (by omega) (fun e => by obtain ⟨t1, t2, _⟩ := obl k e.symm; omega)
  · refine chain k (by omega) (by omega) (by omega) (fun e => ?_)
    rcases olow k e.symm with h | h <;> omega
  · have kl := blk_lt k2
    refine (chain k kl k1 (fun e => ?_) (fun e => ?_)).trans k2
    · rw [e, j1] at k2; cases k2; cases k3
    · obtain ⟨_, c, t2⟩ := own_tag j2 e.symm
      rw [t2] at k2; cases k2; cases k3
  · refine chain bx (by have := j7.size; omega) (by omega) (by omega) (fun e => ?_)
    rcases j3 with h | ⟨b', h, h2, h3⟩
    · rw [h] at e; exact hbo e
    · rw [h] at e; cases e; omega
end Go.Proofs.Qxb6613595aFmt
