import Derived.Test.Qxb6608761aEmEnd
namespace Go.Proofs.Qxb6608761a
open Go.RowKit Go.Sort

theorem inner_done {base oB : Nat} {lo li l' : List Ent} {a start N : Nat} {ip : Int} {sv : Value} {p : Option Addr} {f : Nat → Nat} {w wm w3 W w4 : World} {g gp cap cp : Nat} {cur : Array Value} {v1 v3 v0 : Value} {ip' : Int}
    (h : Mo base oB (lo ++ li) 2 (pendL a 0 0 0 0 ++ pendL start 0 0 0 0) ip (.slice (some ⟨g, 0, none⟩) (lo ++ li).length cap) (.slice (some ⟨gp, 0, none⟩) 2 cp) sv (.slice none 0 0) w) (hB : BB w base p N f)
    (hg6 : cur.toList.take ((lo ++ li).length * 4) = flatE (lo ++ li)) (h3 : S3 f g (lo.length * 4) cur (heads f li.length li) l' w wm w3) (keep3 : ∀ b, b < w.heap.size → b ≠ g → w3.heap[b]? = w.heap[b]?)
    (hm : Moved base oB f p N start l' (.slice (some ⟨g, 0, none⟩) (lo ++ li).length cap) (.slice (some ⟨gp, 0, none⟩) 2 cp) sv ip W w4) (hW : W.heap = w3.heap ∧ W.os = w3.os ∧ W.tape = w3.tape ∧ W.output = w3.output)
    (hpb : ∀ x, p = some x → x.block ≠ g ∧ x.block ≠ oB ∧ x.block ≠ gp ∧ x.block < w.heap.size) (hgl : g < w.heap.size) (hg3 : lo.length + li.length ≤ cap) (hg2 : w.heap[g]? = some (.cells cur 77 (0, 0)))
    (e1 : v1 = .slice (some ⟨gp, 0, none⟩) 1 cp := by rfl) (e0 : v0 = .slice (some ⟨g, 0, none⟩) lo.length cap := by rfl) (e3 : v3 = .int .i64 ip' := by rfl) :
    Inner base oB f p N start lo li l' a ip' sv w (((w4.setCell ⟨oB, 1, none⟩ v1).setCell ⟨oB, 3, none⟩ v3).setCell ⟨oB, 0, none⟩ v0).drew.drew := by
  subst e1 e0 e3
  obtain ⟨sc, hb4⟩ := hm.box
  have hob := blk_lt h.box
  have hgs3 : g < w3.heap.size := blk_lt h3.own
  have hs3 : w.heap.size ≤ w3.heap.size := by
    by_cases e : w.heap.size ≤ w3.heap.size
    · exact e
    · exfalso
      have k := keep3 w3.heap.size (by omega) (by omega)
      rw [Array.getElem?_eq_none (Nat.le_refl _), Array.getElem?_eq_getElem (by omega)] at k
      cases k
  obtain ⟨F, hF⟩ : ∃ F, F = (((w4.setCell ⟨oB, 1, none⟩ (.slice (some ⟨gp, 0, none⟩) 1 cp)).setCell ⟨oB, 3, none⟩ (.int .i64 ip')).setCell ⟨oB, 0, none⟩ (.slice (some ⟨g, 0, none⟩) lo.length cap)).drew.drew := ⟨_, rfl⟩
  have k1 : ∀ b, b ≠ oB → F.heap[b]? = w4.heap[b]? := fun b hb => by
    rw [hF]
    show (((w4.setCell _ _).setCell _ _).setCell _ _).heap[b]? = _
    rw [Below.heap_setCell _ _ _ b hb, Below.heap_setCell _ _ _ b hb, Below.heap_setCell _ _ _ b hb]
  have kb : F.heap[oB]? = some (.cells #[.slice (some ⟨g, 0, none⟩) lo.length cap, .slice (some ⟨gp, 0, none⟩) 1 cp, sv, .int .i64 ip', sc, .slice none 0 0, .slice none 0 0] 72 (0, 0)) := by
    rw [hF]
    show (((w4.setCell _ _).setCell _ _).setCell _ _).heap[oB]? = _
    rw [setCell_blk _ _ _ _ _ _ (setCell_blk _ _ _ _ _ _ (setCell_blk _ _ _ _ _ _ hb4))]
    rfl
  have kall : ∀ b, b < w.heap.size → b ≠ oB → b ≠ g → (∀ x, p = some x → b ≠ x.block) → F.heap[b]? = w.heap[b]? := fun b hb h1 h2 h4 => by
    rw [k1 b h1, hm.keep b (by rw [hW.1]; omega) h1 h4, hW.1]; exact keep3 b hb h2
  have ngo : g ≠ oB := fun e => by subst e; rw [h.box] at hg2; cases hg2
  have hgF : F.heap[g]? = some (.cells (cur.toList.take (lo.length * 4) ++ flatE l' ++ cur.toList.drop (lo.length * 4 + (heads f li.length li).length * 4)).toArray 77 (0, 0)) := by
    rw [k1 g ngo, hm.keep g (by rw [hW.1]; exact hgs3) ngo (fun x hx e => (hpb x hx).1 e.symm), hW.1]; exact h3.own
  have hlen : (lo ++ li).length = lo.length + li.length := List.length_append
  have hcl : cur.toList.take (lo.length * 4) = flatE lo := by
    have e : cur.toList.take (lo.length * 4) = (cur.toList.take ((lo ++ li).length * 4)).take (lo.length * 4) := by rw [List.take_take, Nat.min_eq_left (by rw [hlen]; omega)]
    rw [e, hg6, flatE_append, ← flatE_length, List.take_left]
  have hcs : cur.size = cap * 4 ∧ base ≤ g ∧ cap ≤ maxLen := by
    rcases h.own.2 with ⟨h0, _⟩ | ⟨g', cap', cur', h0, h1, h2, _, h5, h6, _⟩
    · cases h0
    · cases h0; rw [hg2] at h2; cases h2; exact ⟨h6, h1, h5⟩
  have hll : l'.length = li.length := by rw [h3.length, heads_length]
  rw [← hF]
  have nob : ∀ x, p = some x → x.block ≠ oB := fun x hx => (hpb x hx).2.1
  refine ⟨h3.perm, h3.order, ⟨_, _, sc, h.lt, kb, ⟨by rw [flatE_length], .inr ⟨g, cap, _, rfl, hcs.2.1, hgF, by omega, hcs.2.2, ?_, ?_⟩⟩, ?_⟩, ?_, ?_⟩
  · simp [flatE_length, hll, heads_length]; rw [hcs.1]; omega
  · simp only [List.append_assoc]
    rw [← hcl]
    refine (List.take_left' ?_)
    rw [List.length_take, show cur.toList.length = cap * 4 from hcs.1]; omega
  · have e : pendL a 0 0 0 0 = (pendL a 0 0 0 0 ++ pendL start 0 0 0 0).take (1 * 5) := rfl
    rw [e]
    refine own_keep (take_own h.pend 1 (by omega)) fun b c hb hc => ?_
    have hlt := blk_lt hc
    rw [kall b hlt (fun e => by subst e; rw [h.box] at hc; cases hc) (fun e => by subst e; rw [hg2] at hc; cases hc) (fun x hx e => ?_)]
    · exact hc
    · rcases hB with ⟨h0, _⟩ | ⟨b', h0, _, h5⟩
      · rw [h0] at hx; cases hx
      · rw [h0] at hx; cases hx
        simp only at e; rw [← e, hc] at h5; simp at h5
  · rcases hm.body with h0 | ⟨b, h0, h5, h6⟩
    · exact .inl h0
    · exact .inr ⟨b, h0, h5, by rw [k1 b (nob _ h0)]; exact h6⟩
  · refine ⟨?_, ?_, ?_, ?_, fun b hb => ?_, fun b c t q e h1 h2 h4 h5 => ?_⟩
    · rw [hF]; exact hm.os.trans (hW.2.1.trans h3.os)
    · rw [hF]; exact hm.tape.trans (hW.2.2.1.trans h3.tape)
    · rw [hF]; exact hm.output.trans (hW.2.2.2.trans h3.output)
    · have := hm.size
      rw [hW.1] at this
      rw [hF]
      show _ ≤ (((w4.setCell _ _).setCell _ _).setCell _ _).heap.size
      simp [World.setCell]; omega
    · refine kall b (by have := h.lt; omega) (by have := h.lt; omega) (by omega) (fun x hx e => ?_)
      rcases hB with ⟨h0, _⟩ | ⟨b', h0, h5, _⟩
      · rw [h0] at hx; cases hx
      · rw [h0] at hx; cases hx; simp only at e; omega
    · rw [kall b (blk_lt e) (fun k => by subst k; rw [h.box] at e; cases e; exact h1 rfl) (fun k => by subst k; rw [hg2] at e; cases e; exact h2 rfl) (fun x hx k => h5 ⟨x, hx, k⟩)]
      exact e

set_option maxRecDepth 20000 in
set_option maxHeartbeats 6400000 in
theorem inner_any (base oB : Nat) (lo li : List Ent) (a start n N : Nat) (ip : Int) (ov pv sv : Value) (p : Option Addr) (f : Nat → Nat) (w : World)
    (h : Mo base oB (lo ++ li) 2 (pendL a 0 0 0 0 ++ pendL start 0 0 0 0) ip ov pv sv (.slice none 0 0) w) (hne : li ≠ []) (hl1 : lo.length ≤ 65536) (hl2 : li.length ≤ 65536)
    (hB : BB w base p N f) (hN : N ≤ 1048576) (hf : ∀ i, i < N → f i < 256) (hn : n ≤ N) (hst : start ≤ n) (hin : ∀ x ∈ li, start ≤ x.s ∧ x.s ≤ x.e ∧ x.e ≤ n ∧ 2 ≤ x.pd) (hsum : start + (catE f li).length ≤ n) :
    Calls Try.prog 20 #[.pointer (some ⟨oB, 0, none⟩), .slice p n N, markV lo.length 1 ip] w fun r w' => r = .returned (.tuple #[]) ∧ ∃ l', Inner base oB f p N start lo li l' a (wrap64 (ip + 1)) sv w w' := by
  have hlp : 0 < li.length := List.length_pos_iff.2 hne
  -- the parts
  obtain ⟨g, cap, cur, hov, hg1, hg2, hg3, hg4, hg5, hg6⟩ : ∃ g cap cur, ov = .slice (some ⟨g, 0, none⟩) (lo ++ li).length cap ∧ base ≤ g ∧ w.heap[g]? = some (.cells cur 77 (0, 0)) ∧ (lo ++ li).length ≤ cap ∧ cap ≤ maxLen ∧ cur.size = cap * 4 ∧ cur.toList.take ((lo ++ li).length * 4) = flatE (lo ++ li) := by
    rcases h.own.2 with ⟨_, h0⟩ | ⟨g, cap, cur, h0⟩
    · rw [List.length_append] at h0; omega
    · exact ⟨g, cap, cur, h0⟩
  obtain ⟨gp, cp, curp, hpv, hp1, hp2, hp3, hp4, hp5, hp6⟩ : ∃ g cap cur, pv = .slice (some ⟨g, 0, none⟩) 2 cap ∧ base ≤ g ∧ w.heap[g]? = some (.cells cur 74 (0, 0)) ∧ 2 ≤ cap ∧ cap ≤ maxLen ∧ cur.size = cap * 5 ∧ cur.toList.take (2 * 5) = pendL a 0 0 0 0 ++ pendL start 0 0 0 0 := by
    rcases h.pend.2 with ⟨_, h0⟩ | ⟨g, cap, cur, h0⟩
    · omega
    · exact ⟨g, cap, cur, h0⟩
  have hov' := hov
  have hpv' := hpv
  subst hov' hpv'
  have hbox := h.box
  have hob := blk_lt hbox
  have hgl := blk_lt hg2
  have hpl := blk_lt hp2
  have ngo : g ≠ oB := fun e => by subst e; rw [hbox] at hg2; cases hg2
  have npo : gp ≠ oB := fun e => by subst e; rw [hbox] at hp2; cases hp2
  have ngp : gp ≠ g := fun e => by subst e; rw [hg2] at hp2; cases hp2
  have hpb : ∀ x, p = some x → x.block ≠ g ∧ x.block ≠ oB ∧ x.block ≠ gp ∧ x.block < w.heap.size := fun x hx => by
    rcases hB with ⟨h1, _⟩ | ⟨b, h1, _, h3⟩
    · rw [h1] at hx; cases hx
    · rw [h1] at hx; cases hx
      exact ⟨(fun e => by simp only at e; rw [e, hg2] at h3; simp at h3), (fun e => by simp only at e; rw [e, hbox] at h3; simp at h3), (fun e => by simp only at e; rw [e, hp2] at h3; simp at h3), blk_lt h3⟩
  have hcur : ∀ j, j < li.length * 4 → cur[lo.length * 4 + j]? = (flatE li)[j]? := fun j hj => by
    rw [← Array.getElem?_toList]
    have e : cur.toList[lo.length * 4 + j]? = (cur.toList.take ((lo ++ li).length * 4))[lo.length * 4 + j]? := by rw [List.getElem?_take, if_pos (by rw [List.length_append]; omega)]
    rw [e, hg6, flatE_append, List.getElem?_append_right (by rw [flatE_length]; omega), flatE_length]
    congr 1; omega
  have hlen : (lo ++ li).length = lo.length + li.length := List.length_append
  rw [hlen] at hg3
  -- the mark's box
  obtain ⟨wm, hwm⟩ : ∃ wm, wm = w.alloc (.cells #[.int .i64 (lo.length : Int), .int .i64 1, .int .i64 ip] 51) := ⟨_, rfl⟩
  have hmk : ∀ b, b < w.heap.size → wm.heap[b]? = w.heap[b]? := fun b hb => by rw [hwm]; exact Below.heap_alloc w _ b hb
  have hms : wm.heap.size = w.heap.size + 1 := by rw [hwm]; simp
  have hmb : wm.heap[w.heap.size]? = some (.cells #[.int .i64 (lo.length : Int), .int .i64 1, .int .i64 ip] 51 (0, 0)) := by rw [hwm]; exact heap_alloc_new w _
  have hbe : Below w.heap.size w wm := by rw [hwm]; exact below_box w _
  have HS : Hid (∀ W : World, (W.heap = wm.heap ∧ W.os = w.os ∧ W.tape = w.tape ∧ W.output = w.output) → Calls Try.prog 33 #[.pointer (some ⟨oB, 0, none⟩), .slice p n N, .slice (some ⟨g, lo.length * 4, none⟩) li.length (cap - lo.length)] W fun r w3 => r = .returned (.tuple #[]) ∧ ∃ l', S3 f g (lo.length * 4) cur (heads f li.length li) l' w wm w3) := fun W hW => by
    have hbW : Below w.heap.size w W := ⟨hW.2.1, hW.2.2.1, hW.2.2.2, by rw [hW.1, hms]; omega, fun b hb => by rw [hW.1]; exact hmk b hb⟩
    refine (sort_any f oB 2 cp g (lo.length * 4) (cap - lo.length) (some ⟨gp, 0, none⟩) p n N cur li W hl2 hne (fun x hx => ?_) ?_ hcur (by rw [hg5]; omega) ?_ ((hB.bd hN hf n hn).below hbW) ngo.symm (fun x hx => (hpb x hx).1)).mono ?_
    · obtain ⟨i1, i2, i3, i4⟩ := hin x hx; exact ⟨i2, i3, i4⟩
    · rw [hbW.block g hgl]; exact hg2
    · rw [hbW.cell (p := ⟨oB, 1, none⟩) hob]; exact cell_blk hbox 1
    · rintro r w3 ⟨h1, l', h2⟩; exact ⟨h1, l', S3.of h2 hW⟩
  have HM : Hid (∀ (l' : List Ent) (w3 W : World), S3 f g (lo.length * 4) cur (heads f li.length li) l' w wm w3 → W.heap = w3.heap → Calls Try.prog 34 #[.pointer (some ⟨oB, 0, none⟩), .slice p n N, .int .i64 start, .slice (some ⟨g, lo.length * 4, none⟩) li.length (cap - lo.length)] W fun r w4 => r = .returned (.tuple #[]) ∧ Moved base oB f p N start l' (.slice (some ⟨g, 0, none⟩) (lo ++ li).length cap) (.slice (some ⟨gp, 0, none⟩) 2 cp) sv ip W w4) := fun l' w3 W h3 hW => by
    have hll : l'.length = li.length := by rw [h3.length, heads_length]
    have hbw : ∀ b, b < w.heap.size → b ≠ g → W.heap[b]? = w.heap[b]? := fun b hb hb2 => by rw [hW, h3.keep b (by rw [hms]; omega) hb2]; exact hmk b hb
    rw [← hll]
    refine move_any base oB g (lo.length * 4) (cap - lo.length) N n start p f _ l' _ _ sv ip W (by rw [hbw oB hob ngo.symm]; exact hbox) ?_ hN hn hst (by rw [hW]; exact h3.own) (h3.get (by rw [hg5]; omega)) (by omega) (fun x hx => ?_) ?_
    · rcases hB with hB | ⟨b, hb, h5, h6⟩
      · exact .inl hB
      · exact .inr ⟨b, hb, h5, by rw [hbw b (blk_lt h6) (hpb _ hb).1]; exact h6⟩
    · obtain ⟨y, hy, e1, e2, _⟩ := heads_mem (h3.perm.mem_iff.1 hx)
      obtain ⟨i1, i2, i3, _⟩ := hin y hy
      rw [e1, e2]; exact ⟨i1, i2, i3⟩
    · rw [catE_perm_length h3.perm, catE_heads]; exact hsum
  have b0 : w.cell? ⟨oB, 0, none⟩ = some (.slice (some ⟨g, 0, none⟩) (lo.length + li.length) cap) := by rw [← hlen]; exact cell_blk hbox 0
  have b3 : w.cell? ⟨oB, 3, none⟩ = some (.int .i64 ip) := cell_blk hbox 3
  have HALL : Hid _ := And.intro h (And.intro hB (And.intro hbox (And.intro hg2 (And.intro hp2 (And.intro hpb (And.intro hmk (And.intro hmb (And.intro hp6 (And.intro hms hg6)))))))))
  have n0 : ¬ cap = lo.length := by omega
  have hcm : cap ≤ 9223372036854775807 := by simp only [maxLen] at hg4; exact hg4
  have hsub : lo.length + li.length - lo.length = li.length := by omega
  clear h hne hB hf hin hsum hg2 hg4 hg5 hg6 hp2 hp4 hp5 hp6 hbox hpb hcur hmk hmb hbe hN hst
  subst hwm
  unfold markV
  go_enter Try.func20, Try.ntmps20
  go_wp2
  go_quiet (fail)
  go_wp2
  go_quiet (fail)
  go_wp2_with fail
  go_at_call 33
  refine (HS.out _ (by exact ⟨rfl, rfl, rfl, rfl⟩)).mono ?_
  rintro e w3 ⟨rfl, l', h3⟩
  obtain ⟨h, hB, hbox, hg2, hp2, hpb, hmk, hmb, hp6, _, hg6⟩ := HALL.out
  have keep3 : ∀ b, b < w.heap.size → b ≠ g → w3.heap[b]? = w.heap[b]? := fun b hb hb2 => by rw [h3.keep b (by rw [hms]; omega) hb2]; exact hmk b hb
  have hbox3 := (keep3 oB hob ngo.symm).trans hbox
  have hp3' := (keep3 gp hpl ngp).trans hp2
  have hmb3 := (h3.keep w.heap.size (by rw [hms]; omega) (by omega)).trans hmb
  have d1 : w3.cell? ⟨oB, 1, none⟩ = some (.slice (some ⟨gp, 0, none⟩) 2 cp) := cell_blk hbox3 1
  have m1 : w3.cell? ⟨w.heap.size, 1, none⟩ = some (.int .i64 1) := cell_blk hmb3 1
  have e5 : w3.cell? ⟨gp, 5, none⟩ = some (.int .i64 (start : Int)) := by
    rw [cell_blk hp3', ← Array.getElem?_toList]
    have e : curp.toList[5]? = (curp.toList.take (2 * 5))[5]? := by rw [List.getElem?_take, if_pos (by omega)]
    rw [e, hp6]; rfl
  have HP : Hid (∀ W w4, W.heap = w3.heap → Moved base oB f p N start l' (.slice (some ⟨g, 0, none⟩) (lo ++ li).length cap) (.slice (some ⟨gp, 0, none⟩) 2 cp) sv ip W w4 →
      (w4.cell? ⟨oB, 1, none⟩ = some (.slice (some ⟨gp, 0, none⟩) 2 cp) ∧ w4.cell? ⟨oB, 3, none⟩ = some (.int .i64 ip) ∧ w4.cell? ⟨oB, 0, none⟩ = some (.slice (some ⟨g, 0, none⟩) (lo.length + li.length) cap)) ∧
      (w4.frozen? ⟨oB, 1, none⟩ = false ∧ w4.frozen? ⟨oB, 3, none⟩ = false ∧ w4.frozen? ⟨oB, 0, none⟩ = false) ∧
      (w4.cell? ⟨w.heap.size, 0, none⟩ = some (.int .i64 (lo.length : Int)) ∧ w4.cell? ⟨w.heap.size, 1, none⟩ = some (.int .i64 1))) := fun W w4 hW hm => by
    obtain ⟨sc, hb4⟩ := hm.box
    have hmb4 : w4.heap[w.heap.size]? = some (.cells #[.int .i64 (lo.length : Int), .int .i64 1, .int .i64 ip] 51 (0, 0)) := (hm.keep w.heap.size (by rw [hW]; have := h3.size; rw [hms] at this; omega) (by omega) (fun x hx e => by have := (hpb x hx).2.2.2; omega)).trans (by rw [hW]; exact hmb3)
    exact ⟨⟨cell_blk hb4 1, cell_blk hb4 3, by rw [← hlen]; exact cell_blk hb4 0⟩, ⟨free_blk hb4 1, free_blk hb4 3, free_blk hb4 0⟩, cell_blk hmb4 0, cell_blk hmb4 1⟩
  have HMV : Hid (∀ W : World, W.heap = w3.heap → Calls Try.prog 34 #[.pointer (some ⟨oB, 0, none⟩), .slice p n N, .int .i64 start, .slice (some ⟨g, lo.length * 4, none⟩) li.length (cap - lo.length)] W fun r w4 => r = .returned (.tuple #[]) ∧ Hid (Moved base oB f p N start l' (.slice (some ⟨g, 0, none⟩) (lo ++ li).length cap) (.slice (some ⟨gp, 0, none⟩) 2 cp) sv ip W w4)) := fun W hW => HM.out l' w3 W h3 hW
  have H3 : Hid _ := And.intro h3 (And.intro keep3 hmb3)
  have hgs : oB < w3.heap.size := blk_lt hbox3
  have hws : w.heap.size < w3.heap.size := blk_lt hmb3
  clear h hB hbox hg2 hp2 hpb hmk hmb hp6 hg6 keep3 hbox3 hp3' hmb3 HM HS h3 b0 b3
  go_wp2_with fail
  go_region_with (go_at_call 34; refine (HMV.out _ (by rfl)).mono ?_; rintro e w4 ⟨rfl, hm4⟩; have hh := HP.out _ _ (by rfl) hm4.out; obtain ⟨⟨p1, p3, p0⟩, ⟨f1, f3, f0⟩, k0, k1⟩ := hh)
  all_goals
    clear HMV HP d1 m1 e5
    go_wp2
    go_region
    go_wp2
    go_region
    go_wp2
    go_end0
    obtain ⟨h, hB, hbox, hg2, hp2, hpb, hmk, hmb, hp6, _, hg6⟩ := HALL.out
    obtain ⟨h3, keep3, _⟩ := H3.out
    exact ⟨rfl, l', inner_done h hB hg6 h3 keep3 hm4.out (by exact ⟨rfl, rfl, rfl, rfl⟩) hpb hgl hg3 hg2⟩
end Go.Proofs.Qxb6608761a
