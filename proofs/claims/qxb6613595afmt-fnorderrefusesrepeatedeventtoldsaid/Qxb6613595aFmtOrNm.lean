import Derived.Test.Qxb6613595aFmtOrFl
import Derived.Test.Qxb6613595aFmtOrEvt
namespace Go.Proofs.Qxb6613595aFmt
open Go.RowKit Go.Maps Go.Shelf
attribute [local go_sem] Oper.semAt_some
set_option linter.unusedVariables false

theorem known_any (xB i : Nat) (w : World) : Calls Tryf.prog 25 #[.pointer (some ⟨xB, 0, none⟩), .int .i64 (i : Nat)] w fun e w' => e = .returned (.func (.func 43) #[] #[.pointer (some ⟨w.heap.size, 0, none⟩), .pointer (some ⟨w.heap.size + 1, 0, none⟩)]) ∧ w' = (w.alloc (.cells #[.pointer (some ⟨xB, 0, none⟩)] 44)).alloc (.cells #[.int .i64 (i : Nat)] 3) := by
  go_enter Tryf.func25, Tryf.ntmps25
  go_wp2
  go_ret
  exact ⟨rfl, rfl⟩
theorem named_any (xB i : Nat) (w : World) : Calls Tryf.prog 11 #[.pointer (some ⟨xB, 0, none⟩), .int .i64 (i : Nat)] w fun e w' => e = .returned (.func (.func 24) #[] #[.pointer (some ⟨w.heap.size, 0, none⟩), .pointer (some ⟨w.heap.size + 1, 0, none⟩)]) ∧ w' = (w.alloc (.cells #[.pointer (some ⟨xB, 0, none⟩)] 44)).alloc (.cells #[.int .i64 (i : Nat)] 3) := by
  go_enter Tryf.func11, Tryf.ntmps11
  go_wp2
  go_ret
  exact ⟨rfl, rfl⟩

/-- What 'named' yields: a host's number and an event's. -/
abbrev NE (H N : Nat) := { x : Nat × Nat // x.1 < H ∧ x.2 < N }
def encNE {H N : Nat} (x : NE H N) : Array Value := #[.agg #[.int .i64 (x.1.1 : Nat), .int .i64 (x.1.2 : Nat)]]
theorem roundIn_any {m m' l l' : Nat} {P : Program} {fn : FuncId} {tmps : Array Value} {assign body : Code} {W : World} {R : Ending → World → Prop} (h : RoundIn Fence.wide m P l fn tmps assign body W R) : RoundIn (Fence.wide.inRound l') m' P l fn tmps assign body W R :=
  ⟨trivial, fun c cs _ => h.2 c cs (room_wide _)⟩

set_option maxRecDepth 20000 in
set_option maxHeartbeats 16000000 in
theorem named1_in (n m l B evB N C bx bi i : Nat) (ev : Nat → Ev) (D : IxD) (hn : 5 ≤ n) (hi : i < N) (W : World) (hI : Idx B evB N C ev D W) (hB : B ≤ W.heap.size) (h1 : W.heap[bx]? = some (.cells #[.pointer (some ⟨D.A.x, 0, none⟩)] 44 (0, 0))) (h2 : W.heap[bi]? = some (.cells #[.int .i64 (i : Int)] 3 (0, 0))) (hl : l < W.heap.size)
    (J : Nat → List (NE D.H N) → World → Prop) (hOwn : ∀ M, OwnFrom W.heap.size (J M)) (hUp : ∀ M W', J 0 [] W' → J M [] W')
    (hY : ∀ M pre x W1, M ≤ W1.heap.size → pre.length < 1048577 → J M pre W1 → YieldAt Fence.wide m Tryf.prog l (encNE x) W1 fun e W' => e = .returned (.bool true) ∧ J M (pre ++ [x]) W' ∧ Below B W1 W' ∧ (∀ k, W.heap.size ≤ k → k < M → W'.heap[k]? = W1.heap[k]?) ∧ (∀ k o, k ≠ l → W1.heap[k]? = some o → o.isCells = false → W'.heap[k]? = some o) ∧ W1.heap.size ≤ W'.heap.size ∧ W'.heap[bx]? = W1.heap[bx]?)
    (h0 : J 0 [] W) :
    CallsIn Fence.wide n Tryf.prog 24 #[.func (.yield l) #[] #[], .pointer (some ⟨bx, 0, none⟩), .pointer (some ⟨bi, 0, none⟩)] W fun e W' => (∃ v, e = .returned v) ∧ ∃ M xs, J M xs W' := by
  refine callsIn_of_wp_marks Tryf.func24 rfl trivial ?_ rfl
  refine wpIn_wide.2 ?_
  simp only [Tryf.ntmps24, List.size_toArray, List.length_cons, List.length_nil, Nat.reduceAdd, Nat.reduceSub, Array.replicate_succ, Array.replicate_zero, List.push_toArray, List.append_toArray, List.nil_append, List.cons_append]
  have p1 : W.cell? ⟨bx, 0, none⟩ = some (.pointer (some ⟨D.A.x, 0, none⟩)) := cell_blk h1 0
  have p2 : W.cell? ⟨bi, 0, none⟩ = some (.int .i64 (i : Int)) := cell_blk h2 0
  have q1 : bx < W.heap.size := blk_lt h1
  have q2 : bi < W.heap.size := blk_lt h2
  have H25 := known_any D.A.x i
  have hbx := h1
  have HA : Hid _ := And.intro hI (And.intro hB (And.intro hOwn (And.intro hUp (And.intro hY (And.intro h0 hbx)))))
  clear hI hB hOwn hUp hY h0 h1 h2 hbx
  go_wp2_with (go_at_call 25; refine (H25 _).mono ?_; rintro e w' ⟨rfl, rfl⟩)
  obtain ⟨w1, hw1⟩ : ∃ w1, ((W.alloc (Obj.cells #[Value.func (Fn.yield l) #[] #[]] 81)).alloc (Obj.cells #[Value.pointer (some ⟨D.A.x, 0, none⟩)] 44)).alloc (Obj.cells #[Value.int IntKind.i64 (i : Int)] 3) = w1 := ⟨_, rfl⟩
  have z1 : w1.heap.size = W.heap.size + 3 := by rw [← hw1]; simp
  have b1 : Below W.heap.size W w1 := by rw [← hw1]; exact (((Below.refl _ W).alloc (Nat.le_refl _) _).alloc (by simp) _).alloc (by simp; omega) _
  have c0 : w1.heap[W.heap.size]? = some (.cells #[.func (.yield l) #[] #[]] 81 (0, 0)) := by rw [← hw1]; exact alloc_blk (alloc_blk (heap_alloc_new W _) _) _
  have c1 : w1.heap[W.heap.size + 1]? = some (.cells #[.pointer (some ⟨D.A.x, 0, none⟩)] 44 (0, 0)) := by
    rw [← hw1]
    refine alloc_blk ?_ _
    have := heap_alloc_new (W.alloc (Obj.cells #[Value.func (Fn.yield l) #[] #[]] 81)) (Obj.cells #[Value.pointer (some ⟨D.A.x, 0, none⟩)] 44)
    rwa [World.size_alloc] at this
  have c2 : w1.heap[W.heap.size + 1 + 1]? = some (.cells #[.int .i64 (i : Int)] 3 (0, 0)) := by
    rw [← hw1]
    have := heap_alloc_new ((W.alloc (Obj.cells #[Value.func (Fn.yield l) #[] #[]] 81)).alloc (Obj.cells #[Value.pointer (some ⟨D.A.x, 0, none⟩)] 44)) (Obj.cells #[Value.int IntKind.i64 (i : Int)] 3)
    rwa [World.size_alloc, World.size_alloc] at this
  rw [hw1]
  clear hw1
  obtain ⟨hI, hB, hOwn, hUp, hY, h0, hbx⟩ := HA.out
  clear HA
  refine (wpIn_wide (n := n)).1 ?_
  have hS := known_stops (n - 1) B evB N C (W.heap.size + 1) (W.heap.size + 1 + 1) i ev D (by omega) hi w1 (hI.below (b1.mono hB)) (by omega) c1 c2
  refine wpIn_rangeFunc_ownG rfl (by omega) (gf := 43) (lb := #[.pointer (some ⟨W.heap.size + 1, 0, none⟩), .pointer (some ⟨W.heap.size + 1 + 1, 0, none⟩)]) rfl trivial (enters_of Tryf.func43 (by kernel_rfl) rfl) hS Kp.t ?kb (Below.refl _ _) (fun _ => rfl)
    (fun pre W' => ∃ xs, xs.length ≤ pre.length ∧ J w1.heap.size xs W' ∧ Below B W W' ∧ (∀ k, W.heap.size ≤ k → k < w1.heap.size → W'.heap[k]? = w1.heap[k]?) ∧ w1.heap.size ≤ W'.heap.size ∧ W'.heap[bx]? = W.heap[bx]?) (fun _ _ _ => False) ?hI (fun _ _ _ _ _ hs _ _ => hs) ?h0
    (fun x => { tmps := #[Value.func (Fn.yield l) #[] #[], Value.pointer (some ⟨bx, 0, none⟩), Value.pointer (some ⟨bi, 0, none⟩), Value.pointer (some ⟨W.heap.size, 0, none⟩), .int .i64 (x.1.1 : Nat), .int .u64 (x.1.2 : Nat), undef, undef, Value.pointer (some ⟨D.A.x, 0, none⟩), Value.int IntKind.i64 (i : Int), Value.func (Fn.func 43) #[] #[Value.pointer (some ⟨W.heap.size + 1, 0, none⟩), Value.pointer (some ⟨W.heap.size + 1 + 1, 0, none⟩)], .int .i64 (x.1.1 : Nat), .int .u64 (x.1.2 : Nat), undef, undef, undef, undef, undef, undef, undef, undef, undef, undef, undef, undef, undef, undef, undef, undef, undef, undef, undef], defers := [] }) ?assign ?body ?done ?stop
  case kb =>
    intro X k o o' hk ho _ _
    have hlt := blk_lt ho
    exact ⟨(Below.refl _ X).grown (grownBy_putObj' X k o') (by omega) (fun j e => by cases e; omega), World.putObj_heap_other (by omega), World.putObj_heap_other (by omega)⟩
  case hI =>
    rintro s X Y row ⟨xs, hxl, hj, hb, hk, hz, hx⟩ hg hr
    have keep : ∀ b', b' < w1.heap.size → Y.heap[b']? = X.heap[b']? := fun b' hb' => hg.block b' (Nat.lt_of_lt_of_le hb' hz) (fun e => by have := (hr b' e.symm).1; omega)
    exact ⟨xs, hxl, hOwn _ xs X Y row hj hg (fun r e => ⟨by have := (hr r e).1; omega, (hr r e).2⟩), ⟨hg.os.trans hb.os, hg.tape.trans hb.tape, hg.output.trans hb.output, Nat.le_trans hb.size hg.size, fun k hk' => (keep k (by omega)).trans (hb.block k hk')⟩, fun k k1 k2 => (keep k k2).trans (hk k k1 k2), Nat.le_trans hz hg.size, (keep bx (by omega)).trans hx⟩
  case h0 =>
    refine ⟨[], Nat.le_refl _, hUp _ _ (hOwn 0 [] W w1 none h0 ⟨b1.os, b1.tape, b1.output, b1.size, fun k hk _ => b1.block k hk⟩ (fun r e => by cases e)), b1.mono hB, fun k _ _ => rfl, Nat.le_refl _, b1.block bx q1⟩
  case assign =>
    intro l' x X K hK
    obtain ⟨⟨x1, x2⟩, x3⟩ := x
    simp only [encKN]
    gi_wp2
    exact hK
  case body =>
    rintro l' pre ⟨⟨x1, x2⟩, x3⟩ X ⟨xs, hxl, hj, hb, hk, hz, hx⟩ hpl
    have hnE := hI.evs.ne i hi
    have hxl2 : xs.length < 1048577 := by omega
    have HPL : Hid (xs.length ≤ pre.length) := hxl
    clear hpl hxl hnE
    have x3' : x1 < D.H ∧ x2 < 18446744073709551616 := x3
    obtain ⟨x4, x5⟩ := x3'
    have d0 : X.cell? ⟨W.heap.size, 0, none⟩ = some (.func (.yield l) #[] #[]) := cell_blk ((hk _ (Nat.le_refl _) (by omega)).trans c0) 0
    have d1 : X.cell? ⟨bx, 0, none⟩ = some (.pointer (some ⟨D.A.x, 0, none⟩)) := cell_blk (hx.trans hbx) 0
    have IX := hI.below hb
    have HX : Hid _ := And.intro hj (And.intro hb (And.intro hk (And.intro hz (And.intro hx IX))))
    have HY : Hid _ := hY
    have HO : Hid _ := hOwn
    have hBz : B ≤ X.heap.size := by omega
    have hM : w1.heap.size ≤ X.heap.size := hz
    have hdone : Hid (∀ (X' : World) (a : Act), (∃ xs', xs'.length ≤ xs.length + 1 ∧ J w1.heap.size xs' X') → Below B X X' → (∀ k, W.heap.size ≤ k → k < w1.heap.size → X'.heap[k]? = X.heap[k]?) → (∀ k o, k ≠ l → X.heap[k]? = some o → o.isCells = false → X'.heap[k]? = some o) → X.heap.size ≤ X'.heap.size → X'.heap[bx]? = X.heap[bx]? → ownPostG w1.heap.size (Kp B (W.heap.size + 1) (W.heap.size + 1 + 1)) (fun (pre : List (KN D.H)) W' => ∃ xs, xs.length ≤ pre.length ∧ J w1.heap.size xs W' ∧ Below B W W' ∧ (∀ k, W.heap.size ≤ k → k < w1.heap.size → W'.heap[k]? = w1.heap[k]?) ∧ w1.heap.size ≤ W'.heap.size ∧ W'.heap[bx]? = W.heap[bx]?) (fun _ _ _ => False) (pre ++ [⟨(x1, x2), x3⟩]) X .normal a X') := fun X' a ⟨xs', hl', hj'⟩ e1 e2 e3 e4 e5 =>
      ⟨⟨e4, fun k o hk' hko ho => e3 k o (by omega) hko ho⟩, ⟨e1, e2 _ (by omega) (by omega), e2 _ (by omega) (by omega)⟩, xs', by have := HPL.out; simp; omega, hj', hb.trans e1, fun k k1 k2 => (e2 k k1 k2).trans (hk k k1 k2), by omega, e5.trans hx⟩
    clear hY hOwn hUp h0 hI hj hb hk hx IX hS c0 c1 c2
    by_cases hx0 : x2 = 0
    · subst hx0
      gi_wp2
      exact hdone.out X _ ⟨xs, by omega, HX.out.1⟩ (Below.refl _ _) (fun _ _ _ => rfl) (fun _ _ _ h _ => h) (Nat.le_refl _) rfl
    · have hx2 : ¬ (x2 : Int) = 0 := by omega
      obtain ⟨j, b, hjN, H26⟩ := event_any B evB N C ev D X HX.out.2.2.2.2.2 hBz x1 x2 x4 x5
      have HE : Hid (∀ w' : World, Below X.heap.size X w' → J w1.heap.size xs w') := fun w' h => HO.out _ xs X w' none HX.out.1 ⟨h.os, h.tape, h.output, h.size, fun k hk _ => h.block k hk⟩ (fun r e => by cases e)
      cases b with
      | false =>
        have C26 : CallsIn (Fence.wide.inRound l') (n - 1 - 1 - 1) Tryf.prog 26 #[.pointer (some ⟨D.A.x, 0, none⟩), .agg #[.int .i64 (x1 : Nat), .int .u64 (x2 : Nat)]] X fun e w' => e = .returned (.tuple #[.int .i64 (j : Nat), .bool false]) ∧ Hid (Below X.heap.size X w') := CallsIn.inRound l' (callsIn_wide.2 (H26.mono fun e w' h => ⟨h.2, h.1⟩))
        gi_wp2
        refine ⟨trivial, fun h => (by cases h), C26.mono ?_⟩
        rintro e w' ⟨rfl, hbE⟩
        gi_wp2
        refine ⟨fun _ h => (by cases h), ?_⟩
        gi_wp2
        have hb' := hbE.out
        exact hdone.out w' _ ⟨xs, by omega, HE.out w' hb'⟩ (hb'.mono hBz) (fun k _ k2 => hb'.block k (Nat.lt_of_lt_of_le k2 hM)) (fun k o _ h _ => (hb'.block k (blk_lt h)).trans h) hb'.size (hb'.block bx (by omega))
      | true =>
        have hjn := hjN rfl
        have C26 : CallsIn (Fence.wide.inRound l') (n - 1 - 1 - 1) Tryf.prog 26 #[.pointer (some ⟨D.A.x, 0, none⟩), .agg #[.int .i64 (x1 : Nat), .int .u64 (x2 : Nat)]] X fun e w' => e = .returned (.tuple #[.int .i64 (j : Nat), .bool true]) ∧ Hid (Below X.heap.size X w') := CallsIn.inRound l' (callsIn_wide.2 (H26.mono fun e w' h => ⟨h.2, h.1⟩))
        gi_wp2
        refine ⟨trivial, fun h => (by cases h), C26.mono ?_⟩
        rintro e w' ⟨rfl, hbE⟩
        have d0' := kc hbE.out d0
        obtain ⟨fn, tmps, assign, body, hy, hR⟩ := HY.out w1.heap.size xs ⟨(x1, j), x4, hjn⟩ w' (Nat.le_trans hM hbE.out.size) hxl2 (HE.out w' hbE.out)
        dsimp only [encNE] at hy
        gi_wp2
        refine ⟨fun h => (by cases h), (roundIn_any hR).mono ?_⟩
        rintro e W2 ⟨rfl, hj2, e1, e2, e3, e4, e5⟩
        gi_wp2
        have hb' := hbE.out
        exact hdone.out W2 _ ⟨_, by simp, hj2⟩ ((hb'.mono hBz).trans e1) (fun k k1 k2 => (e2 k k1 k2).trans (hb'.block k (Nat.lt_of_lt_of_le k2 hM))) (fun k o hne h ho => e3 k o hne ((hb'.block k (blk_lt h)).trans h) ho) (Nat.le_trans hb'.size e4) (e5.trans (hb'.block bx (by omega)))
  case done =>
    rintro Dd ys X hD _ ⟨xs, _, hj, hb, hk, hz, hx⟩ hd
    refine ⟨by simp, .inl ⟨_, _, rfl, run_takeDeferred hd, ?_⟩⟩
    refine ⟨_, results_none rfl _ _ _, ⟨_, rfl⟩, w1.heap.size, xs, ?_⟩
    exact (hOwn w1.heap.size).putObj _ hj (by omega) hd rfl
  case stop =>
    rintro _ _ _ _ _ _ h _
    exact h.elim
end Go.Proofs.Qxb6613595aFmt
