import Derived.Test.Qxb6608761aEmSo3
import Derived.Test.Qxb6608761aEmMs
import Derived.Test.Qxb6608761aEmTool
namespace Go.Proofs.Qxb6608761a
open Go.RowKit Go.Sort

/-- What a call on the MapOrder may turn: blocks of the MapOrder's own types, and those that 'ex' names. -/
structure Fr (base : Nat) (ex : Nat → Prop) (w w' : World) : Prop where
  os : w'.os = w.os
  tape : w'.tape = w.tape
  output : w'.output = w.output
  size : w.heap.size ≤ w'.heap.size
  low : ∀ b, b < base → w'.heap[b]? = w.heap[b]?
  blk : ∀ b c t q, w.heap[b]? = some (.cells c t q) → t ≠ 72 → t ≠ 77 → t ≠ 74 → ¬ ex b → w'.heap[b]? = some (.cells c t q)
theorem Fr.refl (base : Nat) (ex : Nat → Prop) (w : World) : Fr base ex w w := ⟨rfl, rfl, rfl, Nat.le_refl _, fun _ _ => rfl, fun _ _ _ _ h _ _ _ _ => h⟩
theorem Fr.trans {base : Nat} {ex : Nat → Prop} {a b c : World} (h : Fr base ex a b) (k : Fr base ex b c) : Fr base ex a c :=
  ⟨k.os.trans h.os, k.tape.trans h.tape, k.output.trans h.output, Nat.le_trans h.size k.size, fun i hi => (k.low i hi).trans (h.low i hi), fun i c t q e h1 h2 h3 h4 => k.blk i c t q (h.blk i c t q e h1 h2 h3 h4) h1 h2 h3 h4⟩
theorem Fr.mono {base : Nat} {ex ex' : Nat → Prop} {a b : World} (h : Fr base ex a b) (hx : ∀ b, ex b → ex' b) : Fr base ex' a b :=
  ⟨h.os, h.tape, h.output, h.size, h.low, fun i c t q e h1 h2 h3 h4 => h.blk i c t q e h1 h2 h3 (fun k => h4 (hx i k))⟩
theorem Fr.drew {base : Nat} {ex : Nat → Prop} {a b : World} (h : Fr base ex a b) : Fr base ex a b.drew := ⟨h.os, h.tape, h.output, h.size, h.low, h.blk⟩
theorem Fr.drewN {base : Nat} {ex : Nat → Prop} {a b : World} (h : Fr base ex a b) (j : Nat) : Fr base ex a (b.drewN j) := ⟨h.os, h.tape, h.output, h.size, h.low, h.blk⟩
theorem Fr.below {base : Nat} {ex : Nat → Prop} {a b : World} (h : Below a.heap.size a b) (hb : base ≤ a.heap.size) : Fr base ex a b :=
  ⟨h.os, h.tape, h.output, h.size, fun i hi => h.block i (by omega), fun i c t q e _ _ _ _ => by rw [h.block i (blk_lt e)]; exact e⟩
theorem Fr.toBelow {base : Nat} {ex : Nat → Prop} {a b : World} (h : Fr base ex a b) : Below base a b := ⟨h.os, h.tape, h.output, h.size, h.low⟩

theorem own_keep {w w' : World} {base : Nat} {e : TypeId} {size : Nat} {v : Value} {n : Nat} {xs : List Value} (h : w.ownsRow base e size v n xs)
    (hk : ∀ b c, base ≤ b → w.heap[b]? = some (.cells c e (0, 0)) → w'.heap[b]? = some (.cells c e (0, 0))) : w'.ownsRow base e size v n xs := by
  refine ⟨h.1, ?_⟩
  rcases h.2 with hn | ⟨g, cap, cur, rfl, hb, hgg, rest⟩
  · exact .inl hn
  · exact .inr ⟨g, cap, cur, rfl, hb, hk _ _ hb hgg, rest⟩
theorem own_shape {w : World} {base : Nat} {e : TypeId} {size : Nat} {v : Value} {n : Nat} {xs : List Value} (h : w.ownsRow base e size v n xs) : ∃ q k c, v = .slice q k c := by
  rcases h.2 with ⟨rfl, _⟩ | ⟨g, cap, cur, rfl, _⟩
  · exact ⟨_, _, _, rfl⟩
  · exact ⟨_, _, _, rfl⟩
theorem own_tag {w : World} {base : Nat} {e : TypeId} {size : Nat} {v : Value} {n : Nat} {xs : List Value} (h : w.ownsRow base e size v n xs) {k : Nat} (hk : v.ownBlock = some k) : base ≤ k ∧ ∃ c, w.heap[k]? = some (.cells c e (0, 0)) := by
  rcases h.2 with ⟨rfl, _⟩ | ⟨g, cap, cur, rfl, hb, hgg, rest⟩
  · simp [Value.ownBlock] at hk
  · simp [Value.ownBlock] at hk; subst hk; exact ⟨hb, cur, hgg⟩
theorem own_ne {w : World} {base : Nat} {e t : TypeId} {size : Nat} {v : Value} {n : Nat} {xs : List Value} (h : w.ownsRow base e size v n xs) {b : Nat} {c : Array Value} {q : Nat × Nat} (hb : w.heap[b]? = some (.cells c t q)) (ht : t ≠ e) : some b ≠ v.ownBlock := fun hk => by
  obtain ⟨_, c', h'⟩ := own_tag h hk.symm
  rw [hb] at h'; cases h'; exact ht rfl

structure Mo (base oB : Nat) (lo : List Ent) (np : Nat) (xs : List Value) (ip : Int) (ov pv sv sc : Value) (w : World) : Prop where
  lt : base ≤ oB
  box : w.heap[oB]? = some (.cells #[ov, pv, sv, .int .i64 ip, sc, .slice none 0 0, .slice none 0 0] 72 (0, 0))
  own : w.ownsRow base 77 4 ov lo.length (flatE lo)
  pend : w.ownsRow base 74 5 pv np xs
theorem Mo.keep {base oB : Nat} {lo : List Ent} {np : Nat} {xs : List Value} {ip : Int} {ov pv sv sc : Value} {w w' : World} (h : Mo base oB lo np xs ip ov pv sv sc w) (hk : ∀ b, base ≤ b → b < w.heap.size → w'.heap[b]? = w.heap[b]?) : Mo base oB lo np xs ip ov pv sv sc w' :=
  ⟨h.lt, by rw [hk _ h.lt (blk_lt h.box)]; exact h.box, own_keep h.own fun b c hb e => by rw [hk b hb (blk_lt e)]; exact e, own_keep h.pend fun b c hb e => by rw [hk b hb (blk_lt e)]; exact e⟩
theorem Mo.below {base oB : Nat} {lo : List Ent} {np : Nat} {xs : List Value} {ip : Int} {ov pv sv sc : Value} {w w' : World} (h : Mo base oB lo np xs ip ov pv sv sc w) (hk : Below w.heap.size w w') : Mo base oB lo np xs ip ov pv sv sc w' := h.keep fun b _ hb => hk.block b hb
theorem Mo.cell {base oB : Nat} {lo : List Ent} {np : Nat} {xs : List Value} {ip : Int} {ov pv sv sc : Value} {w : World} (h : Mo base oB lo np xs ip ov pv sv sc w) (j : Nat) : w.cell? ⟨oB, j, none⟩ = (#[ov, pv, sv, .int .i64 ip, sc, .slice none 0 0, .slice none 0 0] : Array Value)[j]? := cell_blk h.box j

theorem info77 : (Try.prog.info? 77).map (fun i => (i.zero, i.size, i.bytes)) = some (some (.agg #[.int .i64 0, .int .i64 0, .int .i64 0, .int .u64 0]), 4, 32) := by kernel_rfl
theorem info74 : (Try.prog.info? 74).map (fun i => (i.zero, i.size, i.bytes)) = some (some (.agg #[.int .i64 0, .int .i64 0, .int .i64 0, .int .i64 0, .int .i64 0]), 5, 40) := by kernel_rfl

/-- One append to the open entries, as a run. -/
theorem appendE (base : Nat) (w : World) (ov : Value) (lo : List Ent) (h : w.ownsRow base 77 4 ov lo.length (flatE lo)) (x : Ent) (hl : lo.length ≤ 1048576) (hb : base ≤ w.heap.size) (ty : TypeId) :
    ∃ q k c w', Sem.run Try.prog (Builtin.append_ #[66, 66] ty #[ov, .slice (some ⟨w.heap.size, 0, none⟩) 1 1]) (w.alloc (.cells (encE x).toArray 77)) = .ok (.slice q k c) w' ∧ w'.ownsRow base 77 4 (.slice q k c) (lo ++ [x]).length (flatE (lo ++ [x])) ∧ (w.alloc (.cells (encE x).toArray 77)).grownBy w' ov.ownBlock := by
  obtain ⟨i, hi, hz, hs, hby⟩ := info_parts info77
  have hb' : base ≤ (w.alloc (.cells (encE x).toArray 77)).heap.size := by simp; omega
  obtain ⟨v', w', hr, ho, hg, _⟩ := run_append_own (P := Try.prog) (w.alloc (.cells (encE x).toArray 77)) base 66 ty 77 i _ 4 32 Try.underlying66 hi hz hs hby rfl (by decide) ov lo.length (flatE lo) (h.alloc _) ⟨w.heap.size, 0, none⟩ 1 1 (encE x) rfl
    (fun j u hj => by
      rw [Addr.add_lit, cell_blk (heap_alloc_new w _)]
      simpa using hj) (encE_one x) (by simp only [maxLen]; omega) (by omega) hb'
  obtain ⟨q, k, c, rfl⟩ := own_shape ho
  refine ⟨q, k, c, w', hr, ?_, hg⟩
  rw [flatE_append, List.length_append]
  simpa [flatE] using ho

def pendL (s e a b c : Nat) : List Value := [.int .i64 (s : Int), .int .i64 (e : Int), .int .i64 (a : Int), .int .i64 (b : Int), .int .i64 (c : Int)]
theorem appendP (base : Nat) (w : World) (pv : Value) (np : Nat) (xs : List Value) (h : w.ownsRow base 74 5 pv np xs) (s : Nat) (hl : np ≤ 1048576) (hb : base ≤ w.heap.size) (ty : TypeId) :
    ∃ q k c w', Sem.run Try.prog (Builtin.append_ #[67, 67] ty #[pv, .slice (some ⟨w.heap.size, 0, none⟩) 1 1]) (w.alloc (.cells (pendL s 0 0 0 0).toArray 74)) = .ok (.slice q k c) w' ∧ w'.ownsRow base 74 5 (.slice q k c) (np + 1) (xs ++ pendL s 0 0 0 0) ∧ (w.alloc (.cells (pendL s 0 0 0 0).toArray 74)).grownBy w' pv.ownBlock := by
  obtain ⟨i, hi, hz, hs, hby⟩ := info_parts info74
  have hb' : base ≤ (w.alloc (.cells (pendL s 0 0 0 0).toArray 74)).heap.size := by simp; omega
  obtain ⟨v', w', hr, ho, hg, _⟩ := run_append_own (P := Try.prog) (w.alloc (.cells (pendL s 0 0 0 0).toArray 74)) base 67 ty 74 i _ 5 40 Try.underlying67 hi hz hs hby rfl (by decide) pv np xs (h.alloc _) ⟨w.heap.size, 0, none⟩ 1 1 (pendL s 0 0 0 0) rfl
    (fun j u hj => by
      rw [Addr.add_lit, cell_blk (heap_alloc_new w _)]
      simpa using hj) (fun v hv => by simp [pendL] at hv; rcases hv with rfl | rfl <;> rfl) (by simp only [maxLen]; omega) (by omega) hb'
  obtain ⟨q, k, c, rfl⟩ := own_shape ho
  exact ⟨q, k, c, w', hr, ho, hg⟩

theorem setCell_blk (w : World) (b o : Nat) (c : Array Value) (E : TypeId) (v : Value) (h : w.heap[b]? = some (.cells c E (0, 0))) : (w.setCell ⟨b, o, none⟩ v).heap[b]? = some (.cells (c.setIfInBounds o v) E (0, 0)) := setCell_own w b o c E v h

theorem mo_open {base oB : Nat} {lo : List Ent} {np : Nat} {xs : List Value} {ip : Int} {ov pv sv sc : Value} {w w1 : World} (h : Mo base oB lo np xs ip ov pv sv sc w) {x : Ent} {v' : Value} {ob : Obj} {ex : Nat → Prop}
    (ho : w1.ownsRow base 77 4 v' (lo ++ [x]).length (flatE (lo ++ [x]))) (hg : (w.alloc ob).grownBy w1 ov.ownBlock) (hb1 : w1.heap[oB]? = some (.cells #[ov, pv, sv, .int .i64 ip, sc, .slice none 0 0, .slice none 0 0] 72 (0, 0))) :
    (∃ ov', Mo base oB (lo ++ [x]) np xs ip ov' pv sv sc (w1.setCell ⟨oB, 0, none⟩ v')) ∧ Fr base ex w (w1.setCell ⟨oB, 0, none⟩ v') := by
  have k1 : ∀ b, b ≠ oB → (w1.setCell ⟨oB, 0, none⟩ v').heap[b]? = w1.heap[b]? := fun b hb => Below.heap_setCell w1 _ _ b hb
  have k2 : ∀ b, b < w.heap.size → some b ≠ ov.ownBlock → w1.heap[b]? = w.heap[b]? := fun b hb hn => (hg.block b (by simp; omega) hn).trans (Below.heap_alloc w ob b hb)
  refine ⟨⟨v', h.lt, ?_, own_keep ho fun b c hb e => ?_, own_keep h.pend fun b c hb e => ?_⟩, hg.os, hg.tape, hg.output, ?_, fun b hb => ?_, fun b c t q e h1 h2 h3 h4 => ?_⟩
  · rw [setCell_blk _ _ _ _ _ _ hb1]; rfl
  · rw [k1 b (fun k => by subst k; rw [hb1] at e; cases e)]; exact e
  · have hx : b ≠ oB := fun k => by subst k; rw [h.box] at e; cases e
    rw [k1 b hx, k2 b (blk_lt e) (own_ne h.own e (by decide))]; exact e
  · have := hg.size; simp at this; simp [World.setCell]; omega
  · have hx : b ≠ oB := fun k => by have := h.lt; omega
    have := blk_lt h.box
    rw [k1 b hx, k2 b (by have := h.lt; omega) (fun k => by have := (own_tag h.own k.symm).1; omega)]
  · have hx : b ≠ oB := fun k => by subst k; rw [h.box] at e; cases e; exact h1 rfl
    rw [k1 b hx, k2 b (blk_lt e) (own_ne h.own e h2)]; exact e
theorem mo_pend {base oB : Nat} {lo : List Ent} {np np' : Nat} {xs xs' : List Value} {ip : Int} {ov pv sv sc : Value} {w w1 : World} (h : Mo base oB lo np xs ip ov pv sv sc w) {v' : Value} {ob : Obj} {ex : Nat → Prop}
    (ho : w1.ownsRow base 74 5 v' np' xs') (hg : (w.alloc ob).grownBy w1 pv.ownBlock) (hb1 : w1.heap[oB]? = some (.cells #[ov, pv, sv, .int .i64 ip, sc, .slice none 0 0, .slice none 0 0] 72 (0, 0))) :
    (∃ pv', Mo base oB lo np' xs' ip ov pv' sv sc (w1.setCell ⟨oB, 1, none⟩ v')) ∧ Fr base ex w (w1.setCell ⟨oB, 1, none⟩ v') := by
  have k1 : ∀ b, b ≠ oB → (w1.setCell ⟨oB, 1, none⟩ v').heap[b]? = w1.heap[b]? := fun b hb => Below.heap_setCell w1 _ _ b hb
  have k2 : ∀ b, b < w.heap.size → some b ≠ pv.ownBlock → w1.heap[b]? = w.heap[b]? := fun b hb hn => (hg.block b (by simp; omega) hn).trans (Below.heap_alloc w ob b hb)
  refine ⟨⟨v', h.lt, ?_, own_keep h.own fun b c hb e => ?_, own_keep ho fun b c hb e => ?_⟩, hg.os, hg.tape, hg.output, ?_, fun b hb => ?_, fun b c t q e h1 h2 h3 h4 => ?_⟩
  · rw [setCell_blk _ _ _ _ _ _ hb1]; rfl
  · have hx : b ≠ oB := fun k => by subst k; rw [h.box] at e; cases e
    rw [k1 b hx, k2 b (blk_lt e) (own_ne h.pend e (by decide))]; exact e
  · rw [k1 b (fun k => by subst k; rw [hb1] at e; cases e)]; exact e
  · have := hg.size; simp at this; simp [World.setCell]; omega
  · have hx : b ≠ oB := fun k => by have := h.lt; omega
    have := blk_lt h.box
    rw [k1 b hx, k2 b (by have := h.lt; omega) (fun k => by have := (own_tag h.pend k.symm).1; omega)]
  · have hx : b ≠ oB := fun k => by subst k; rw [h.box] at e; cases e; exact h1 rfl
    rw [k1 b hx, k2 b (blk_lt e) (own_ne h.pend e h3)]; exact e

set_option maxRecDepth 20000 in
set_option maxHeartbeats 1600000 in
theorem open_any (base oB : Nat) (lo : List Ent) (np : Nat) (xs : List Value) (ip : Int) (ov pv sv sc : Value) (w : World) (h : Mo base oB lo np xs ip ov pv sv sc w) (s e pd : Nat) (hl : lo.length ≤ 1048576) (hb : base ≤ w.heap.size) (ex : Nat → Prop) :
    Calls Try.prog 19 #[.pointer (some ⟨oB, 0, none⟩), .int .i64 s, .int .i64 e, .int .i64 pd] w fun r w' => r = .returned (.tuple #[]) ∧ (∃ ov', Mo base oB (lo ++ [⟨s, e, pd, 0⟩]) np xs ip ov' pv sv sc w') ∧ Fr base ex w w' := by
  obtain ⟨q', k', c', w1, hr, ho, hg⟩ := appendE base w ov lo h.own ⟨s, e, pd, 0⟩ hl hb 66
  have hblt := blk_lt h.box
  have hbx : (w.alloc (.cells (encE ⟨s, e, pd, 0⟩).toArray 77)).heap[oB]? = _ := (Below.heap_alloc w _ oB hblt).trans h.box
  have hne := own_ne (h.own.alloc (.cells (encE ⟨s, e, pd, 0⟩).toArray 77)) hbx (by decide)
  have hb1 : w1.heap[oB]? = _ := (hg.block oB (blk_lt hbx) hne).trans hbx
  have c0 := h.cell 0
  simp only [List.getElem?_toArray, List.getElem?_cons_zero] at c0
  have f1 : w1.frozen? ⟨oB, 0, none⟩ = false := free_blk hb1 0
  have c1 : w1.cell? ⟨oB, 0, none⟩ = some ov := cell_blk hb1 0
  simp only [encE, Int.cast_ofNat_Int] at hr
  have HR : Hid _ := hr
  have H : Hid _ := And.intro h (And.intro ho (And.intro hg (And.intro hb1 hne)))
  clear h ho hg hne hr hbx hb1
  go_enter Try.func19, Try.ntmps19
  go_wp2_with (at_builtin; refine wpList_append_run rfl _ _ 66 66 rfl _ _ _ rfl rfl HR.out ?_)
  go_wp2
  go_end0
  obtain ⟨h, ho, hg, hb1, hne⟩ := H.out
  exact ⟨rfl, mo_open h ho hg hb1⟩

set_option maxRecDepth 20000 in
set_option maxHeartbeats 1600000 in
theorem pend_any (base oB : Nat) (lo : List Ent) (np : Nat) (xs : List Value) (ip : Int) (ov pv sv sc : Value) (w : World) (h : Mo base oB lo np xs ip ov pv sv sc w) (s : Nat) (hl : np ≤ 1048576) (hb : base ≤ w.heap.size) (ex : Nat → Prop) :
    Calls Try.prog 18 #[.pointer (some ⟨oB, 0, none⟩), .int .i64 s] w fun r w' => r = .returned (.tuple #[]) ∧ (∃ pv', Mo base oB lo (np + 1) (xs ++ pendL s 0 0 0 0) ip ov pv' sv sc w') ∧ Fr base ex w w' := by
  obtain ⟨q', k', c', w1, hr, ho, hg⟩ := appendP base w pv np xs h.pend s hl hb 67
  have hblt := blk_lt h.box
  have hbx : (w.alloc (.cells (pendL s 0 0 0 0).toArray 74)).heap[oB]? = _ := (Below.heap_alloc w _ oB hblt).trans h.box
  have hne := own_ne (h.pend.alloc (.cells (pendL s 0 0 0 0).toArray 74)) hbx (by decide)
  have hb1 : w1.heap[oB]? = _ := (hg.block oB (blk_lt hbx) hne).trans hbx
  have c0 := h.cell 1
  simp only [List.getElem?_toArray, List.getElem?_cons_zero, List.getElem?_cons_succ] at c0
  have f1 : w1.frozen? ⟨oB, 1, none⟩ = false := free_blk hb1 1
  have c1 : w1.cell? ⟨oB, 1, none⟩ = some pv := cell_blk hb1 1
  simp only [pendL, Int.cast_ofNat_Int] at hr
  have HR : Hid _ := hr
  have H : Hid _ := And.intro h (And.intro ho (And.intro hg (And.intro hb1 hne)))
  clear h ho hg hne hr hbx hb1
  go_enter Try.func18, Try.ntmps18
  go_wp2_with (at_builtin; refine wpList_append_run rfl _ _ 67 67 rfl _ _ _ rfl rfl HR.out ?_)
  go_wp2
  go_end0
  obtain ⟨h, ho, hg, hb1, hne⟩ := H.out
  exact ⟨rfl, mo_pend h ho hg hb1⟩

/-- The MapOrder's box in its own shape. -/
theorem new_any (w : World) (ip : Int) : Calls Try.prog 17 #[.int .i64 ip] w fun r w' => r = .returned (.pointer (some ⟨w.heap.size, 0, none⟩)) ∧ Mo w.heap.size w.heap.size [] 0 [] ip (.slice none 0 0) (.slice none 0 0) (.slice none 0 0) (.slice none 0 0) w' ∧ Below w.heap.size w w' := by
  go_enter Try.func17, Try.ntmps17
  go_wp2
  go_ret
  exact ⟨rfl, ⟨Nat.le_refl _, heap_alloc_new w _, World.ownsRow_nil _ _ _ _, World.ownsRow_nil _ _ _ _⟩, below_box _ _⟩

def markV (first pending : Nat) (ip : Int) : Value := .agg #[.int .i64 (first : Int), .int .i64 (pending : Int), .int .i64 ip]
theorem mark_any (w : World) (first pending : Nat) (ip : Int) : Calls Try.prog 21 #[.int .i64 first, .int .i64 pending, .int .i64 ip] w fun r w' => r = .returned (markV first pending ip) ∧ Below w.heap.size w w' := by
  go_enter Try.func21, Try.ntmps21
  go_wp2
  refine bodyPost_ret (results_cell_row rfl _ _ w.heap.size 51 _ (0, 0) _ rfl (heap_alloc_new w _) Try.underlying51 rfl (by kernel_rfl)) rfl ?_
  exact ⟨rfl, below_box _ _⟩
theorem openLen_any (oB n c : Nat) (p : Option Addr) (w : World) (h : w.cell? ⟨oB, 0, none⟩ = some (.slice p n c)) : Calls Try.prog 25 #[.pointer (some ⟨oB, 0, none⟩)] w fun r w' => r = .returned (.int .i64 n) ∧ w' = w := by
  go_enter Try.func25, Try.ntmps25
  go_wp2
  go_ret
  exact ⟨rfl, rfl⟩
theorem pendLen_any (oB n c : Nat) (p : Option Addr) (w : World) (h : w.cell? ⟨oB, 1, none⟩ = some (.slice p n c)) : Calls Try.prog 26 #[.pointer (some ⟨oB, 0, none⟩)] w fun r w' => r = .returned (.int .i64 n) ∧ w' = w := by
  go_enter Try.func26, Try.ntmps26
  go_wp2
  go_ret
  exact ⟨rfl, rfl⟩
theorem sortedLen_any (oB n c : Nat) (p : Option Addr) (w : World) (h : w.cell? ⟨oB, 2, none⟩ = some (.slice p n c)) : Calls Try.prog 27 #[.pointer (some ⟨oB, 0, none⟩)] w fun r w' => r = .returned (.int .i64 n) ∧ w' = w := by
  go_enter Try.func27, Try.ntmps27
  go_wp2
  go_ret
  exact ⟨rfl, rfl⟩
theorem inPlace_any (oB : Nat) (ip : Int) (w : World) (h : w.cell? ⟨oB, 3, none⟩ = some (.int .i64 ip)) : Calls Try.prog 28 #[.pointer (some ⟨oB, 0, none⟩)] w fun r w' => r = .returned (.int .i64 ip) ∧ w' = w := by
  go_enter Try.func28, Try.ntmps28
  go_wp2
  go_ret
  exact ⟨rfl, rfl⟩
end Go.Proofs.Qxb6608761a
