import Derived.Test.Qxb6613595aFmtOrOwn
import Derived.RangeFuncNested
import Derived.RangeFuncBound
import Derived.RangeFuncCalls
import Derived.RangeFuncLeaves
import Derived.OwnWalkIn
import Derived.TacticsInMore
import Derived.LoopNIn
import Derived.LoopIn
namespace Go.Proofs.Qxb6613595aFmt
open Go.RowKit Go.Maps
attribute [local go_sem ↓] Go.wp_at_zero Go.wp_at_succ
attribute [local go_sem] Oper.semAt_some
set_option linter.unusedVariables false

/-- What the iterators yield: a host's number and an entry. -/
abbrev KN (H : Nat) := { x : Nat × Nat // x.1 < H ∧ x.2 < 18446744073709551616 }
theorem wrap_nat2 (z : Int) : ∃ m : Nat, m < 18446744073709551616 ∧ IntKind.u64.wrap z = (m : Int) := by
  obtain ⟨m, hm⟩ := wrap_nat z
  refine ⟨m, ?_, hm⟩
  have : IntKind.u64.wrap z < 18446744073709551616 := by simp [IntKind.wrap, IntKind.bits, IntKind.signed]; omega
  omega
def encKN {H : Nat} (x : KN H) : Array Value := #[.int .i64 (x.1.1 : Nat), .int .u64 (x.1.2 : Nat)]
/-- What a round must keep. -/
def Kp (B bx bi : Nat) (W W' : World) : Prop := Below B W W' ∧ W'.heap[bx]? = W.heap[bx]? ∧ W'.heap[bi]? = W.heap[bi]?
theorem Kp.t {B bx bi : Nat} {X Y Z : World} (h : Kp B bx bi X Y) (k : Kp B bx bi Y Z) : Kp B bx bi X Z := ⟨h.1.trans k.1, k.2.1.trans h.2.1, k.2.2.trans h.2.2⟩

set_option maxRecDepth 20000 in
set_option maxHeartbeats 16000000 in
theorem known1_in (n l B evB N C bx bi i : Nat) (ev : Nat → Ev) (D : IxD) (hn : 1 ≤ n) (hi : i < N) (W : World) (hI : Idx B evB N C ev D W) (hB : B ≤ W.heap.size) (h1 : W.heap[bx]? = some (.cells #[.pointer (some ⟨D.A.x, 0, none⟩)] 44 (0, 0))) (h2 : W.heap[bi]? = some (.cells #[.int .i64 (i : Int)] 3 (0, 0)))
    (J Jx : List (KN D.H) → World → Prop) (hJ : AbidesFrom W.heap.size J)
    (hY : ∀ pre x W1, J pre W1 → pre.length < (ev i).ne → YieldAt Fence.wide (n - 1) Tryf.prog l (encKN x) W1 fun e W' => (e = .returned (.bool true) ∧ J (pre ++ [x]) W' ∧ Kp B bx bi W1 W') ∨ (e = .returned (.bool false) ∧ Jx (pre ++ [x]) W'))
    (h0 : J [] W) :
    CallsIn Fence.wide n Tryf.prog 43 #[.func (.yield l) #[] #[], .pointer (some ⟨bx, 0, none⟩), .pointer (some ⟨bi, 0, none⟩)] W fun e W' => (∃ v, e = .returned v) ∧ ((∃ xs, True ∧ J xs W') ∨ (∃ pre, True ∧ Jx pre W')) := by
  refine callsIn_of_wp Tryf.func43 rfl trivial ?_ rfl
  refine wpIn_wide.2 ?_
  simp only [Tryf.ntmps43, List.size_toArray, List.length_cons, List.length_nil, Nat.reduceAdd, Nat.reduceSub, Array.replicate_succ, Array.replicate_zero, List.push_toArray, List.append_toArray, List.nil_append, List.cons_append]
  have HY : Hid _ := hY
  have HI : Hid (Idx B evB N C ev D W ∧ B ≤ W.heap.size ∧ W.heap[bx]? = some (.cells #[.pointer (some ⟨D.A.x, 0, none⟩)] 44 (0, 0)) ∧ W.heap[bi]? = some (.cells #[.int .i64 (i : Int)] 3 (0, 0))) := ⟨hI, hB, h1, h2⟩
  have HJ : Hid (AbidesFrom W.heap.size J ∧ J [] W) := ⟨hJ, h0⟩
  have p1 : W.cell? ⟨bx, 0, none⟩ = some (.pointer (some ⟨D.A.x, 0, none⟩)) := cell_blk h1 0
  have p2 : W.cell? ⟨bi, 0, none⟩ = some (.int .i64 (i : Int)) := cell_blk h2 0
  have p3 : W.cell? ⟨D.A.x, 0, none⟩ = some (.slice (some ⟨evB, 0, none⟩) N C) := cell_blk hI.box 0
  have p4 := (hI.evs.six i hi).2.1
  have hnn := hI.evs.ne i hi
  have i1 : (0 : Int) ≤ (i : Int) := by omega
  have i2 : (i : Int) < (N : Int) := by omega
  clear hY hI hB h1 h2 hJ h0
  obtain ⟨m, hm0⟩ : ∃ x, (ev i).ne = x := ⟨_, rfl⟩
  obtain ⟨eb, heb0⟩ : ∃ x, (ev i).eb = x := ⟨_, rfl⟩
  rw [hm0, heb0] at p4
  rw [hm0] at hnn HY
  have EQ : Hid ((ev i).ne = m ∧ (ev i).eb = eb) := ⟨hm0, heb0⟩
  clear hm0 heb0
  go_wp2_with fail
  go_region_held3 (fun w' => w'.cell? ⟨bx, 0, none⟩ = some (.pointer (some ⟨D.A.x, 0, none⟩)) ∧ w'.cell? ⟨bi, 0, none⟩ = some (.int .i64 (i : Int)) ∧ w'.cell? ⟨D.A.x, 0, none⟩ = some (.slice (some ⟨evB, 0, none⟩) N C) ∧ w'.cell? ⟨evB, i * 6 + 1, none⟩ = some (.slice (some ⟨eb, 0, none⟩) m m)) (first | go_keep | exact ⟨p1, p2, p3, p4⟩) (fail)
  clear p1 p2 p3 p4
  go_wp2_with fail
  go_loopg [18] m (fun k s18 wr => ∃ (p : Nat) (pre : List (KN D.H)), s18 = .int .i64 (p : Int) ∧ p ≤ m ∧ m - p ≤ k ∧ Hid (pre.length = p ∧ J pre wr ∧ Kp B bx bi W wr ∧ W.heap.size ≤ wr.heap.size))
  case atStart => exact ⟨0, [], rfl, by omega, by omega, rfl, HJ.out.1 [] W _ none HJ.out.2 ⟨rfl, rfl, rfl, Nat.le_refl _, fun _ _ _ => rfl⟩ (fun r e => by cases e), ⟨(Below.refl _ _).drew, rfl, rfl⟩, Nat.le_refl _⟩
  case round =>
    obtain ⟨p, pre, rfl, g1, g2, hR⟩ := hrel
    by_cases hlt : p < m
    · have I1 := HI.out.1.below hR.out.2.2.1.1
      have hen := I1.evs.ent i hi
      rw [EQ.out.1, EQ.out.2] at hen
      obtain ⟨c1, c2⟩ := hen p hlt
      clear hen I1
      obtain ⟨hs, hs0⟩ : ∃ x, ((ev i).E p).1 = x := ⟨_, rfl⟩
      obtain ⟨c, hc0⟩ : ∃ x, ((ev i).E p).2 = x := ⟨_, rfl⟩
      rw [hs0] at c1
      rw [hc0] at c2
      have hc64 : c < 18446744073709551616 := by have := (HI.out.1.evs.es i hi p (by rw [EQ.out.1]; exact hlt)).2; omega
      clear hs0 hc0
      have i3 : (p : Int) < (m : Int) := by omega
      go_upto_region 3 with fail
      obtain ⟨W2, hW2⟩ : ∃ W2, wr.alloc (Obj.cells #[Value.string hs, Value.int IntKind.u64 (c : Int)] 62) = W2 := ⟨_, rfl⟩
      have b2 : Below wr.heap.size wr W2 := by rw [← hW2]; exact (Below.refl _ _).alloc (Nat.le_refl _) _
      have hbx : bx < W.heap.size := blk_lt HI.out.2.2.1
      have hbi : bi < W.heap.size := blk_lt HI.out.2.2.2
      have K2 : Hid (Kp B bx bi W W2 ∧ W.heap.size ≤ W2.heap.size ∧ Below wr.heap.size wr W2) := ⟨hR.out.2.2.1.t ⟨b2.mono (by have := HI.out.2.1; have := hR.out.2.2.2; omega), b2.block bx (by have := hR.out.2.2.2; omega), b2.block bi (by have := hR.out.2.2.2; omega)⟩, by have := b2.size; have := hR.out.2.2.2; omega, b2⟩
      have e1 : W2.cell? ⟨wr.heap.size, 1, none⟩ = some (.int .u64 (c : Int)) := by rw [← hW2, cell_blk (heap_alloc_new wr _)]; rfl
      rw [hW2]
      clear hW2 c1 c2 b2 hbx hbi
      have I2 := HI.out.1.below K2.out.1.1
      have d0 : W2.cell? ⟨bx, 0, none⟩ = some (.pointer (some ⟨D.A.x, 0, none⟩)) := cell_blk (K2.out.1.2.1.trans HI.out.2.2.1) 0
      have d1 : W2.cell? ⟨bi, 0, none⟩ = some (.int .i64 (i : Int)) := cell_blk (K2.out.1.2.2.trans HI.out.2.2.2) 0
      have d2 : W2.cell? ⟨D.A.x, 2, none⟩ = some (.slice (some ⟨D.A.ids, 0, none⟩) N N) := cell_blk I2.box 2
      have d3 : W2.cell? ⟨D.A.x, 3, none⟩ = some (.slice (some ⟨D.A.hst, 0, none⟩) N N) := cell_blk I2.box 3
      have f2 := I2.ids i hi
      rw [EQ.out.1] at f2
      obtain ⟨f3, h3⟩ := I2.iv i hi p (by rw [EQ.out.1]; exact hlt)
      obtain ⟨f4, h4⟩ := I2.hst i hi
      clear I2
      generalize D.id i p = h at f3 h3
      generalize D.hs i = hh at f4 h4
      generalize D.off i = off at f2 f3
      have i4 : (h : Int) < (D.H : Int) := by omega
      go_region_held3 (fun w' => w'.cell? ⟨bx, 0, none⟩ = some (.pointer (some ⟨D.A.x, 0, none⟩)) ∧ w'.cell? ⟨bi, 0, none⟩ = some (.int .i64 (i : Int)) ∧ w'.cell? ⟨D.A.x, 2, none⟩ = some (.slice (some ⟨D.A.ids, 0, none⟩) N N) ∧ w'.cell? ⟨D.A.ids, i, none⟩ = some (.slice (some ⟨D.gI, off, none⟩) m m) ∧ w'.cell? ⟨D.gI, off + p, none⟩ = some (.int .i64 (h : Int)) ∧ w'.cell? ⟨wr.heap.size, 1, none⟩ = some (.int .u64 (c : Int))) (first | go_keep | exact ⟨d0, d1, d2, f2, f3, e1⟩) (fail)
      go_wp2_with fail
      go_region_held3 (fun w' => w'.cell? ⟨bx, 0, none⟩ = some (.pointer (some ⟨D.A.x, 0, none⟩)) ∧ w'.cell? ⟨bi, 0, none⟩ = some (.int .i64 (i : Int)) ∧ w'.cell? ⟨D.A.x, 3, none⟩ = some (.slice (some ⟨D.A.hst, 0, none⟩) N N) ∧ w'.cell? ⟨D.A.hst, i, none⟩ = some (.int .i64 (hh : Int))) (first | go_keep | exact ⟨d0, d1, d3, f4⟩) (fail)
      have hmain : Hid (∀ (y : Nat) (hy2 : y < 18446744073709551616) (W4 : World), W4 = W2.drew.drew → ∃ fn tmps assign body, (Instr.yield l #[.int .i64 (h : Int), .int .u64 (y : Int)]).run Tryf.prog W4 = .ok (.round l fn tmps assign body) W4 ∧ RoundIn Fence.wide (n - 1) Tryf.prog l fn tmps assign body W4 (fun e W' => (e = .returned (.bool true) ∧ Hid ((pre ++ [(⟨(h, y), h3, hy2⟩ : KN D.H)]).length = p + 1 ∧ J (pre ++ [⟨(h, y), h3, hy2⟩]) W' ∧ Kp B bx bi W W' ∧ W.heap.size ≤ W'.heap.size)) ∨ (e = .returned (.bool false) ∧ Hid (Jx (pre ++ [⟨(h, y), h3, hy2⟩]) W')))) := fun y hy2 W4 hW4 => by
        have b4 : Below wr.heap.size wr W4 := by rw [hW4]; exact K2.out.2.2.drew.drew
        have k4 : Kp B bx bi W W4 := by rw [hW4]; exact ⟨K2.out.1.1.drew.drew, K2.out.1.2⟩
        have hJ4 : J pre W4 := HJ.out.1 pre wr W4 none hR.out.2.1 ⟨b4.os, b4.tape, b4.output, b4.size, fun k hk _ => b4.block k hk⟩ (fun r e => by cases e)
        obtain ⟨fn, tmps, assign, body, hy, hr⟩ := HY.out pre ⟨(h, y), h3, hy2⟩ W4 hJ4 (by rw [hR.out.1]; exact hlt)
        refine ⟨fn, tmps, assign, body, hy, hr.mono ?_⟩
        rintro e W' (⟨he, hj, hk⟩ | ⟨he, hj⟩)
        · exact .inl ⟨he, by simp [hR.out.1], hj, k4.t hk, by have := hk.1.size; have := b4.size; have := hR.out.2.2.2; omega⟩
        · exact .inr ⟨he, hj⟩
      by_cases hhh : h = hh
      · subst hhh
        obtain ⟨y, hy2, hy⟩ := wrap_nat2 ((c : Int) - 1)
        go_upto_region 6 with fail
        obtain ⟨fn, tmps, assign, body, hyy, hRR⟩ := hmain.out y hy2 _ rfl
        refine (wpIn_wide (n := n)).1 ?_
        gi_wp2
        refine hRR.mono ?_
        rintro e W' (⟨rfl, hj⟩ | ⟨rfl, hj⟩)
        · gi_wp2
          go_wp2_with fail
          go_roundg (m - (p + 1))
          case measure => omega
          case rel => exact ⟨p + 1, _, by rw [show (p : Int) + 1 = ((p + 1 : Nat) : Int) by omega], by omega, Nat.le_refl _, hj⟩
        · gi_wp2
          go_wp2_with fail
          refine bodyPost_ret (results_none rfl _ _ _) rfl ?_
          exact ⟨⟨_, rfl⟩, .inr ⟨_, trivial, hj.out⟩⟩
      · have hne2 : ¬ (h : Int) = (hh : Int) := by omega
        go_upto_region 6 with fail
        obtain ⟨fn, tmps, assign, body, hyy, hRR⟩ := hmain.out c hc64 _ rfl
        refine (wpIn_wide (n := n)).1 ?_
        gi_wp2
        refine hRR.mono ?_
        rintro e W' (⟨rfl, hj⟩ | ⟨rfl, hj⟩)
        · gi_wp2
          go_wp2_with fail
          go_roundg (m - (p + 1))
          case measure => omega
          case rel => exact ⟨p + 1, _, by rw [show (p : Int) + 1 = ((p + 1 : Nat) : Int) by omega], by omega, Nat.le_refl _, hj⟩
        · gi_wp2
          go_wp2_with fail
          refine bodyPost_ret (results_none rfl _ _ _) rfl ?_
          exact ⟨⟨_, rfl⟩, .inr ⟨_, trivial, hj.out⟩⟩
    · obtain rfl : p = m := by omega
      go_wp2_with fail
      go_end0
      exact ⟨⟨_, rfl⟩, .inl ⟨pre, trivial, hR.out.2.1⟩⟩

theorem known_stops (n B evB N C bx bi i : Nat) (ev : Nat → Ev) (D : IxD) (hn : 1 ≤ n) (hi : i < N) (w : World) (hI : Idx B evB N C ev D w) (hB : B ≤ w.heap.size) (h1 : w.heap[bx]? = some (.cells #[.pointer (some ⟨D.A.x, 0, none⟩)] 44 (0, 0))) (h2 : w.heap[bi]? = some (.cells #[.int .i64 (i : Int)] 3 (0, 0))) :
    SeqStopsK Fence.wide n Tryf.prog 43 #[.pointer (some ⟨bx, 0, none⟩), .pointer (some ⟨bi, 0, none⟩)] (encKN (H := D.H)) (Kp B bx bi) (fun _ => True) (fun _ => True) (ev i).ne w :=
  fun l J Jx W hb hJ _ hY h0 => known1_in n l B evB N C bx bi i ev D hn hi W (hI.below (hb.mono hB)) (Nat.le_trans hB hb.size) ((hb.block bx (blk_lt h1)).trans h1) ((hb.block bi (blk_lt h2)).trans h2) J Jx hJ hY h0
end Go.Proofs.Qxb6613595aFmt
