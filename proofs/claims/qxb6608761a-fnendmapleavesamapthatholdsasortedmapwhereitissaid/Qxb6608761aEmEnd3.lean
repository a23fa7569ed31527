import Derived.Test.Qxb6608761aEmEnd
namespace Go.Proofs.Qxb6608761a
open Go.RowKit Go.Sort

/-- Behind the outer EndMap. -/
structure Outer (base oB : Nat) (f : Nat → Nat) (N : Nat) (lo l' : List Ent) (a : Nat) (ip : Int) (w w' : World) : Prop where
  perm : l'.Perm (heads f lo.length lo)
  order : l'.Pairwise (fun x y => cfE f x y ≤ 0)
  fr : Fr base (fun _ => False) w w'
  o0 : ∃ q c, w'.cell? ⟨oB, 0, none⟩ = some (.slice q 0 c)
  o1 : ∃ gp cp, w'.cell? ⟨oB, 1, none⟩ = some (.slice (some ⟨gp, 0, none⟩) 1 cp) ∧ ∀ j, j < 5 → w'.cell? ⟨gp, j, none⟩ = (pendL a N 0 lo.length 1)[j]?
  o2 : ∃ gs cs, w'.cell? ⟨oB, 2, none⟩ = some (.slice (some ⟨gs, 0, none⟩) lo.length cs) ∧ ∀ j, j < lo.length * 4 → w'.cell? ⟨gs, j, none⟩ = (flatE l')[j]?
  o3 : w'.cell? ⟨oB, 3, none⟩ = some (.int .i64 ip)

/-- Behind the stores to the pending map. -/
structure Ch (gp a N m : Nat) (w3 W : World) : Prop where
  os : W.os = w3.os
  tape : W.tape = w3.tape
  output : W.output = w3.output
  size : W.heap.size = w3.heap.size
  keep : ∀ b, b ≠ gp → W.heap[b]? = w3.heap[b]?
  gpb : ∃ c, W.heap[gp]? = some (.cells c 74 (0, 0)) ∧ ∀ j, j < 5 → c[j]? = (pendL a N 0 m 1)[j]?
theorem drew_heap (w : World) : w.drew.heap = w.heap := rfl
theorem drewN_heap (w : World) (n : Nat) : (w.drewN n).heap = w.heap := rfl
theorem setCell_size (w : World) (a : Addr) (v : Value) : (w.setCell a v).heap.size = w.heap.size := by simp [World.setCell]
theorem ch_chain (gp a N m nq : Nat) (w3 : World) (c : Array Value) (hc : w3.heap[gp]? = some (.cells c 74 (0, 0))) (h5 : ∀ j, j < 5 → c[j]? = (pendL a 0 0 0 0)[j]?) :
    Ch gp a N m w3 (((((w3.drewN nq).setCell ⟨gp, 1, none⟩ (.int .i64 (N : Int))).setCell ⟨gp, 4, none⟩ (.int .i64 1)).setCell ⟨gp, 2, none⟩ (.int .i64 0)).setCell ⟨gp, 3, none⟩ (.int .i64 (m : Int))).drew := by
  refine ⟨rfl, rfl, rfl, ?_, fun b hb => ?_, (((c.setIfInBounds 1 (.int .i64 (N : Int))).setIfInBounds 4 (.int .i64 1)).setIfInBounds 2 (.int .i64 0)).setIfInBounds 3 (.int .i64 (m : Int)), ?_, ?_⟩
  · rw [drew_heap, setCell_size, setCell_size, setCell_size, setCell_size, drewN_heap]
  · rw [drew_heap, Below.heap_setCell _ _ _ b hb, Below.heap_setCell _ _ _ b hb, Below.heap_setCell _ _ _ b hb, Below.heap_setCell _ _ _ b hb, drewN_heap]
  · rw [drew_heap]
    exact setCell_blk _ _ _ _ _ _ (setCell_blk _ _ _ _ _ _ (setCell_blk _ _ _ _ _ _ (setCell_blk _ _ _ _ _ _ (by rw [drewN_heap]; exact hc))))
  · have hsz : 5 ≤ c.size := by
      by_cases h : 5 ≤ c.size
      · exact h
      · have h4 := h5 4 (by omega)
        rw [Array.getElem?_eq_none (by omega)] at h4; cases h4
    intro j hj
    have e0 := h5 0 (by omega)
    match j, hj with
    | 0, _ => simp; exact e0
    | 1, _ => simp [show 1 < c.size by omega]; rfl
    | 2, _ => simp [show 2 < c.size by omega]; rfl
    | 3, _ => simp [show 3 < c.size by omega]; rfl
    | 4, _ => simp [show 4 < c.size by omega]; rfl

structure P6 (gp a N m gs cs : Nat) (l' : List Ent) (w3 w6 : World) : Prop where
  os : w6.os = w3.os
  tape : w6.tape = w3.tape
  output : w6.output = w3.output
  size : w3.heap.size ≤ w6.heap.size
  keep : ∀ b, b < w3.heap.size → b ≠ gp → w6.heap[b]? = w3.heap[b]?
  gpb : ∃ c, w6.heap[gp]? = some (.cells c 74 (0, 0)) ∧ ∀ j, j < 5 → c[j]? = (pendL a N 0 m 1)[j]?
  own : w6.ownsRow w3.heap.size 77 4 (.slice (some ⟨gs, 0, none⟩) m cs) m (flatE l')
theorem room_next {gp a N m g cs cap : Nat} {l' : List Ent} {w3 W w5 : World} (hW : Ch gp a N m w3 W) (hR : Room W w5 m cs) (hm : l'.length = m) (hgp : gp < w3.heap.size) (hgn : g ≠ gp) (hgl : g < w3.heap.size) (c : Array Value) (hg : w3.heap[g]? = some (.cells c 77 (0, 0))) (hc : ∀ j, j < m * 4 → c[j]? = (flatE l')[j]?) :
    ∃ w6, Sem.run Try.prog (Builtin.append_ #[66, 66] 66 #[.slice (some ⟨W.heap.size, 0, none⟩) 0 cs, .slice (some ⟨g, 0, none⟩) m cap]) w5 = .ok (.slice (some ⟨W.heap.size, 0, none⟩) m cs) w6 ∧ P6 gp a N m W.heap.size cs l' w3 w6 := by
  obtain ⟨i, hi, hz, hs, hby⟩ := info_parts info77
  have hg5 : w5.heap[g]? = some (.cells c 77 (0, 0)) := by rw [hR.below.block g (by rw [hW.size]; exact hgl), hW.keep g hgn]; exact hg
  obtain ⟨w6, hr, ho, hgr⟩ := run_append_fits (P := Try.prog) w5 W.heap.size 66 66 77 i 4 Try.underlying66 hi hs W.heap.size 0 cs [] hR.own ⟨g, 0, none⟩ m cap (flatE l') (by rw [flatE_length, hm])
    (fun j u hj => by
      have hjm : j < m * 4 := by
        by_cases h : j < m * 4
        · exact h
        · rw [List.getElem?_eq_none (by rw [flatE_length, hm]; omega)] at hj; cases hj
      rw [Addr.add_lit, cell_blk hg5, Nat.zero_add, hc j hjm]; exact hj)
    (fun u hu => by simp only [flatE, List.mem_flatMap] at hu; obtain ⟨x, _, hx⟩ := hu; exact encE_one x u hx) (by rw [Nat.zero_add]; exact hR.le)
  rw [Nat.zero_add] at hr ho
  rw [List.nil_append] at ho
  have k : ∀ b, b < w3.heap.size → w6.heap[b]? = W.heap[b]? := fun b hb => by
    have h1 : b < W.heap.size := by rw [hW.size]; exact hb
    rw [hgr.block b (by have := hR.below.size; omega) (by simp; omega)]; exact hR.below.block b h1
  obtain ⟨d, hd, hd5⟩ := hW.gpb
  refine ⟨w6, hr, hgr.os.trans (hR.below.os.trans hW.os), hgr.tape.trans (hR.below.tape.trans hW.tape), hgr.output.trans (hR.below.output.trans hW.output), ?_, fun b hb hn => (k b hb).trans (hW.keep b hn), ⟨d, (k gp hgp).trans hd, hd5⟩, ?_⟩
  · have h1 := hgr.size; have h2 := hR.below.size; have h3 := hW.size; omega
  · rw [← hW.size]; exact ho
theorem outer_done {base oB : Nat} {lo l' : List Ent} {a N : Nat} {ip : Int} {f : Nat → Nat} {w wm w3 w6 : World} {g gp gs cap cp cs : Nat} {cur : Array Value} {pv sc : Value}
    (h : Mo base oB lo 1 (pendL a 0 0 0 0) ip (.slice (some ⟨g, 0, none⟩) lo.length cap) pv (.slice none 0 0) sc w) (hpv : pv = .slice (some ⟨gp, 0, none⟩) 1 cp) (h3 : S3 f g 0 cur (heads f lo.length lo) l' w wm w3) (keep3 : ∀ b, b < w.heap.size → b ≠ g → w3.heap[b]? = w.heap[b]?) (hws : w.heap.size ≤ w3.heap.size)
    (h6 : P6 gp a N lo.length gs cs l' w3 w6) (hbase : base ≤ w.heap.size) :
    Outer base oB f N lo l' a ip w ((w6.setCell ⟨oB, 2, none⟩ (.slice (some ⟨gs, 0, none⟩) lo.length cs)).setCell ⟨oB, 0, none⟩ (.slice (some ⟨g, 0, none⟩) 0 cap)).drew := by
  subst hpv
  have hob := blk_lt h.box
  obtain ⟨hg1, cg, hgt⟩ := own_tag h.own (k := g) rfl
  obtain ⟨hp1, cpp, hpt⟩ := own_tag h.pend (k := gp) rfl
  have ngo : g ≠ oB := fun e => by subst e; rw [h.box] at hgt; cases hgt
  have npo : gp ≠ oB := fun e => by subst e; rw [h.box] at hpt; cases hpt
  obtain ⟨F, hF⟩ : ∃ F, F = ((w6.setCell ⟨oB, 2, none⟩ (.slice (some ⟨gs, 0, none⟩) lo.length cs)).setCell ⟨oB, 0, none⟩ (.slice (some ⟨g, 0, none⟩) 0 cap)).drew := ⟨_, rfl⟩
  have k1 : ∀ b, b ≠ oB → F.heap[b]? = w6.heap[b]? := fun b hb => by
    rw [hF]
    show ((w6.setCell _ _).setCell _ _).heap[b]? = _
    rw [Below.heap_setCell _ _ _ b hb, Below.heap_setCell _ _ _ b hb]
  have hb6 : w6.heap[oB]? = _ := (h6.keep oB (by omega) npo.symm).trans ((keep3 oB hob ngo.symm).trans h.box)
  have kb : F.heap[oB]? = some (.cells #[.slice (some ⟨g, 0, none⟩) 0 cap, .slice (some ⟨gp, 0, none⟩) 1 cp, .slice (some ⟨gs, 0, none⟩) lo.length cs, .int .i64 ip, sc, .slice none 0 0, .slice none 0 0] 72 (0, 0)) := by
    rw [hF]
    show ((w6.setCell _ _).setCell _ _).heap[oB]? = _
    rw [setCell_blk _ _ _ _ _ _ (setCell_blk _ _ _ _ _ _ hb6)]
    rfl
  have kall : ∀ b, b < w.heap.size → b ≠ oB → b ≠ g → b ≠ gp → F.heap[b]? = w.heap[b]? := fun b hb n1 n2 n3 => by
    rw [k1 b n1, h6.keep b (by omega) n3]; exact keep3 b hb n2
  rw [← hF]
  refine ⟨h3.perm, h3.order, ⟨?_, ?_, ?_, ?_, fun b hb => ?_, fun b c t q e n1 n2 n3 _ => ?_⟩, ⟨_, _, cell_blk kb 0⟩, ⟨gp, cp, cell_blk kb 1, fun j hj => ?_⟩, ⟨gs, cs, cell_blk kb 2, fun j hj => ?_⟩, cell_blk kb 3⟩
  · rw [hF]; exact h6.os.trans h3.os
  · rw [hF]; exact h6.tape.trans h3.tape
  · rw [hF]; exact h6.output.trans h3.output
  · rw [hF]
    show _ ≤ ((w6.setCell _ _).setCell _ _).heap.size
    have := h6.size
    simp [World.setCell]; omega
  · exact kall b (by omega) (by have := h.lt; omega) (by omega) (by omega)
  · rw [kall b (blk_lt e) (fun k => by subst k; rw [h.box] at e; cases e; exact n1 rfl) (fun k => by subst k; rw [hgt] at e; cases e; exact n2 rfl) (fun k => by subst k; rw [hpt] at e; cases e; exact n3 rfl)]
    exact e
  · obtain ⟨c, hc, hc5⟩ := h6.gpb
    rw [cell_blk ((k1 gp npo).trans hc)]; exact hc5 j hj
  · obtain ⟨h10, c, h11⟩ := own_tag h6.own (k := gs) rfl
    have h12 := h6.own.cellAt j hj
    rw [← h12]
    exact World.cell?_of_block (k1 gs (by omega))

set_option maxRecDepth 20000 in
set_option maxHeartbeats 6400000 in
theorem outer_any (base oB : Nat) (lo : List Ent) (a N : Nat) (ip ip' : Int) (ov pv sc : Value) (p : Option Addr) (f : Nat → Nat) (w : World)
    (h : Mo base oB lo 1 (pendL a 0 0 0 0) ip' ov pv (.slice none 0 0) sc w) (hip : ¬ ip' = ip) (hne : lo ≠ []) (hl1 : lo.length ≤ 65536)
    (hB : BB w base p N f) (hN : N ≤ 1048576) (hf : ∀ i, i < N → f i < 256) (hin : ∀ x ∈ lo, x.s ≤ x.e ∧ x.e ≤ N ∧ 1 ≤ x.pd) (hbase : base ≤ w.heap.size) :
    Calls Try.prog 20 #[.pointer (some ⟨oB, 0, none⟩), .slice p N N, markV 0 0 ip] w fun r w' => r = .returned (.tuple #[]) ∧ ∃ l', Outer base oB f N lo l' a ip' w w' := by
  have hlp : 0 < lo.length := List.length_pos_iff.2 hne
  obtain ⟨g, cap, cur, hov, hg1, hg2, hg3, hg4, hg5, hg6⟩ : ∃ g cap cur, ov = .slice (some ⟨g, 0, none⟩) lo.length cap ∧ base ≤ g ∧ w.heap[g]? = some (.cells cur 77 (0, 0)) ∧ lo.length ≤ cap ∧ cap ≤ maxLen ∧ cur.size = cap * 4 ∧ cur.toList.take (lo.length * 4) = flatE lo := by
    rcases h.own.2 with ⟨_, h0⟩ | ⟨g, cap, cur, h0⟩
    · omega
    · exact ⟨g, cap, cur, h0⟩
  obtain ⟨gp, cp, curp, hpv, hp1, hp2, hp3, hp4, hp5, hp6⟩ : ∃ g cap cur, pv = .slice (some ⟨g, 0, none⟩) 1 cap ∧ base ≤ g ∧ w.heap[g]? = some (.cells cur 74 (0, 0)) ∧ 1 ≤ cap ∧ cap ≤ maxLen ∧ cur.size = cap * 5 ∧ cur.toList.take (1 * 5) = pendL a 0 0 0 0 := by
    rcases h.pend.2 with ⟨_, h0⟩ | ⟨g, cap, cur, h0⟩
    · omega
    · exact ⟨g, cap, cur, h0⟩
  subst hov hpv
  have hbox := h.box
  have hob := blk_lt hbox
  have hgl := blk_lt hg2
  have hpl := blk_lt hp2
  have ngo : g ≠ oB := fun e => by subst e; rw [hbox] at hg2; cases hg2
  have npo : gp ≠ oB := fun e => by subst e; rw [hbox] at hp2; cases hp2
  have ngp : gp ≠ g := fun e => by subst e; rw [hg2] at hp2; cases hp2
  have hpb : ∀ x, p = some x → x.block ≠ g := fun x hx => by
    rcases hB with ⟨h1, _⟩ | ⟨b, h1, _, h3⟩
    · rw [h1] at hx; cases hx
    · rw [h1] at hx; cases hx
      exact (fun e => by simp only at e; rw [e, hg2] at h3; simp at h3)
  have hcur : ∀ j, j < lo.length * 4 → cur[0 + j]? = (flatE lo)[j]? := fun j hj => by
    rw [← Array.getElem?_toList, Nat.zero_add]
    have e : cur.toList[j]? = (cur.toList.take (lo.length * 4))[j]? := by rw [List.getElem?_take, if_pos hj]
    rw [e, hg6]
  obtain ⟨wm, hwm⟩ : ∃ wm, wm = w.alloc (.cells #[.int .i64 0, .int .i64 0, .int .i64 ip] 51) := ⟨_, rfl⟩
  have hmk : ∀ b, b < w.heap.size → wm.heap[b]? = w.heap[b]? := fun b hb => by rw [hwm]; exact Below.heap_alloc w _ b hb
  have hms : wm.heap.size = w.heap.size + 1 := by rw [hwm]; simp
  have hmb : wm.heap[w.heap.size]? = some (.cells #[.int .i64 0, .int .i64 0, .int .i64 ip] 51 (0, 0)) := by rw [hwm]; exact heap_alloc_new w _
  have HS : Hid (∀ W : World, (W.heap = wm.heap ∧ W.os = w.os ∧ W.tape = w.tape ∧ W.output = w.output) → Calls Try.prog 33 #[.pointer (some ⟨oB, 0, none⟩), .slice p N N, .slice (some ⟨g, 0, none⟩) lo.length cap] W fun r w3 => r = .returned (.tuple #[]) ∧ ∃ l', S3 f g 0 cur (heads f lo.length lo) l' w wm w3) := fun W hW => by
    have hbW : Below w.heap.size w W := ⟨hW.2.1, hW.2.2.1, hW.2.2.2, by rw [hW.1, hms]; omega, fun b hb => by rw [hW.1]; exact hmk b hb⟩
    refine (sort_any f oB 1 cp g 0 cap (some ⟨gp, 0, none⟩) p N N cur lo W hl1 hne hin ?_ hcur (by rw [hg5]; omega) ?_ ((hB.bd hN hf N (Nat.le_refl _)).below hbW) ngo.symm hpb).mono ?_
    · rw [hbW.block g hgl]; exact hg2
    · rw [hbW.cell (p := ⟨oB, 1, none⟩) hob]; exact cell_blk hbox 1
    · rintro r w3 ⟨h1, l', h2⟩; exact ⟨h1, l', S3.of h2 hW⟩
  have b0 : w.cell? ⟨oB, 0, none⟩ = some (.slice (some ⟨g, 0, none⟩) lo.length cap) := cell_blk hbox 0
  have b3 : w.cell? ⟨oB, 3, none⟩ = some (.int .i64 ip') := cell_blk hbox 3
  have HALL : Hid _ := And.intro h (And.intro hbox (And.intro hg2 (And.intro hp2 (And.intro hmk (And.intro hmb (And.intro hp6 (And.intro hg5 hp5)))))))
  have n0 : ¬ cap = 0 := by omega
  have hcm : cap ≤ 9223372036854775807 := by simp only [maxLen] at hg4; exact hg4
  clear h hne hB hf hin hg2 hg4 hg5 hg6 hp2 hp4 hp5 hp6 hbox hpb hcur hmk hmb
  subst hwm
  unfold markV
  go_enter Try.func20, Try.ntmps20
  go_wp2
  go_quiet (fail)
  go_wp2
  go_quiet (fail)
  go_wp2_with fail
  go_at_call 33
  refine (HS.out _ (by exact ⟨rfl, rfl, rfl, rfl⟩)).mono ?_
  rintro e w3 ⟨rfl, l', h3⟩
  obtain ⟨h, hbox, hg2, hp2, hmk, hmb, hp6, hg5, hp5⟩ := HALL.out
  have keep3 : ∀ b, b < w.heap.size → b ≠ g → w3.heap[b]? = w.heap[b]? := fun b hb hb2 => by rw [h3.keep b (by rw [hms]; omega) hb2]; exact hmk b hb
  have hbox3 := (keep3 oB hob ngo.symm).trans hbox
  have hp3' := (keep3 gp hpl ngp).trans hp2
  have hmb3 := (h3.keep w.heap.size (by rw [hms]; omega) (by omega)).trans hmb
  have d1 : w3.cell? ⟨oB, 1, none⟩ = some (.slice (some ⟨gp, 0, none⟩) 1 cp) := cell_blk hbox3 1
  have d2 : w3.cell? ⟨oB, 2, none⟩ = some (.slice none 0 0) := cell_blk hbox3 2
  have m1 : w3.cell? ⟨w.heap.size, 1, none⟩ = some (.int .i64 0) := cell_blk hmb3 1
  have hcp : ∀ j, j < 5 → w3.cell? ⟨gp, j, none⟩ = (pendL a 0 0 0 0)[j]? := fun j hj => by
    rw [cell_blk hp3', ← Array.getElem?_toList]
    have e : curp.toList[j]? = (curp.toList.take (1 * 5))[j]? := by rw [List.getElem?_take, if_pos (by omega)]
    rw [e, hp6]
  have q1 : w3.cell? ⟨gp, 1, none⟩ = some (.int .i64 0) := hcp 1 (by omega)
  have q2 : w3.cell? ⟨gp, 2, none⟩ = some (.int .i64 0) := hcp 2 (by omega)
  have q3 : w3.cell? ⟨gp, 3, none⟩ = some (.int .i64 0) := hcp 3 (by omega)
  have q4 : w3.cell? ⟨gp, 4, none⟩ = some (.int .i64 0) := hcp 4 (by omega)
  have f1 : w3.frozen? ⟨gp, 1, none⟩ = false := free_blk hp3' 1
  have f2 : w3.frozen? ⟨gp, 2, none⟩ = false := free_blk hp3' 2
  have f3 : w3.frozen? ⟨gp, 3, none⟩ = false := free_blk hp3' 3
  have f4 : w3.frozen? ⟨gp, 4, none⟩ = false := free_blk hp3' 4
  have H3 : Hid _ := And.intro h3 (And.intro keep3 (And.intro hmb3 (And.intro hbox3 hp3')))
  have hgs : oB < w3.heap.size := blk_lt hbox3
  have hws : w.heap.size < w3.heap.size := blk_lt hmb3
  have hg3' : w3.heap[g]? = _ := h3.own
  have hll : l'.length = lo.length := by rw [h3.length, heads_length]
  have HG : Hid (∀ W : World, Ch gp a N lo.length w3 W → Calls Try.prog 35 #[.slice none 0 0, .int .i64 lo.length] W fun r w5 => ∃ gs cs w6, r = .returned (.slice (some ⟨gs, 0, none⟩) 0 cs) ∧ Hid (Sem.run Try.prog (Builtin.append_ #[66, 66] 66 #[.slice (some ⟨gs, 0, none⟩) 0 cs, .slice (some ⟨g, 0, none⟩) lo.length cap]) w5 = .ok (.slice (some ⟨gs, 0, none⟩) lo.length cs) w6) ∧ Hid (P6 gp a N lo.length gs cs l' w3 w6) ∧
      (w6.cell? ⟨oB, 0, none⟩ = some (.slice (some ⟨g, 0, none⟩) lo.length cap) ∧ w6.cell? ⟨oB, 2, none⟩ = some (.slice none 0 0) ∧ w6.frozen? ⟨oB, 0, none⟩ = false ∧ w6.frozen? ⟨oB, 2, none⟩ = false ∧ w6.cell? ⟨w.heap.size, 0, none⟩ = some (.int .i64 0))) := fun W hW => by
    refine (grow_any W lo.length hlp hl1).mono ?_
    rintro r w5 ⟨cs, rfl, hR⟩
    obtain ⟨w6, hr, h6⟩ := room_next (g := g) (cap := cap) hW hR hll (by omega) ngp.symm (blk_lt h3.own) _ h3.own (fun j hj => by have e := h3.get (Nat.zero_le _) j (by rw [hll]; exact hj); rw [show 0 + j = j from Nat.zero_add j] at e; exact e)
    have hb6 := (h6.keep oB (blk_lt hbox3) npo.symm).trans hbox3
    have hm6 := (h6.keep w.heap.size (blk_lt hmb3) (by omega)).trans hmb3
    exact ⟨_, cs, w6, rfl, hr, h6, cell_blk hb6 0, cell_blk hb6 2, free_blk hb6 0, free_blk hb6 2, cell_blk hm6 0⟩
  have HCH : Hid (∀ nq, Ch gp a N lo.length w3 (((((w3.drewN nq).setCell ⟨gp, 1, none⟩ (.int .i64 (N : Int))).setCell ⟨gp, 4, none⟩ (.int .i64 1)).setCell ⟨gp, 2, none⟩ (.int .i64 0)).setCell ⟨gp, 3, none⟩ (.int .i64 (lo.length : Int))).drew) := fun nq => ch_chain gp a N lo.length nq w3 curp hp3' (fun j hj => by rw [← hcp j hj, cell_blk hp3'])
  have HPV : Hid _ := h
  clear h hbox hg2 hp2 hmk hmb hp6 hg5 hp5 keep3 hbox3 hp3' hmb3 HS h3 b0 b3 hcp hg3' hll
  go_wp2
  go_quiet (fail)
  go_wp2
  go_region
  go_wp2_with fail
  go_at_call 35
  refine (HG.out _ (HCH.out _)).mono ?_
  rintro e w5 ⟨gs, cs, w6, rfl, HQ, H6, c0, c2, fr0, fr2, k0⟩
  clear HG HCH
  go_wp2_with (at_builtin; refine wpList_append_run rfl _ _ 66 66 rfl _ _ _ rfl rfl HQ.out ?_)
  go_wp2
  go_region
  go_wp2
  go_end0
  exact ⟨rfl, l', outer_done HPV.out rfl H3.out.1 H3.out.2.1 (by omega) H6.out hbase⟩
end Go.Proofs.Qxb6608761a
