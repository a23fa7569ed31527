import Derived.Test.Qxb6608761aEmSo2
namespace Go.Proofs.Qxb6608761a
open Go.RowKit Go.Sort

theorem Lp.drew {f : Nat → Nat} {oB g off : Nat} {p : Option Addr} {n c : Nat} {cur : Array Value} {l : List Ent} {k : Nat} {w wr : World} (h : Lp f oB g off p n c cur l k w wr) : Lp f oB g off p n c cur l k w wr.drew := ⟨h.os, h.tape, h.output, h.size, h.block, h.box1, h.box2, h.own⟩
theorem Lp.store' {f : Nat → Nat} {oB g off : Nat} {p : Option Addr} {n c : Nat} {cur : Array Value} {l : List Ent} {k : Nat} {w wr : World} (h : Lp f oB g off p n c cur l k w wr) (hg : g < w.heap.size) (x : Ent) (hx : l[k]? = some x) (hfit : off + l.length * 4 ≤ cur.size) (hk : k < l.length) :
    Lp f oB g off p n c cur l (k + 1) w (wr.setCell ⟨g, off + k * 4 + 3, none⟩ (.int .u64 ((headK 8 (seg f x.s x.e) : Nat) : Int))) := by
  rw [show off + k * 4 + 3 = off + (4 * k + 3) by omega]
  exact h.store hg x hx hfit hk

set_option maxRecDepth 20000 in
set_option maxHeartbeats 3200000 in
theorem sort_any (f : Nat → Nat) (oB np cp g off cap : Nat) (pv p : Option Addr) (n c : Nat) (cur : Array Value) (l : List Ent) (w : World)
    (hsz : l.length ≤ 65536) (hne : l ≠ []) (hin : ∀ x ∈ l, x.s ≤ x.e ∧ x.e ≤ n ∧ np ≤ x.pd) (hg : w.heap[g]? = some (.cells cur 77 (0, 0))) (hcur : ∀ j, j < l.length * 4 → cur[off + j]? = (flatE l)[j]?) (hfit : off + l.length * 4 ≤ cur.size)
    (hc : w.cell? ⟨oB, 1, none⟩ = some (.slice pv np cp)) (hB : Bd w p n c f) (n1 : oB ≠ g) (n4 : ∀ x, p = some x → x.block ≠ g) :
    Calls Try.prog 33 #[.pointer (some ⟨oB, 0, none⟩), .slice p n c, .slice (some ⟨g, off, none⟩) l.length cap] w fun r w' => r = .returned (.tuple #[]) ∧ ∃ l', Sorted f g off cur (heads f l.length l) l' w w' := by
  have hgl : g < w.heap.size := by
    by_cases h : g < w.heap.size
    · exact h
    · rw [Array.getElem?_eq_none (by omega)] at hg; cases hg
  go_enter Try.func33, Try.ntmps33
  go_wp2_with fail
  go_loopw [9] (fun i wr => ∃ k : Nat, k ≤ l.length ∧ i = .int .i64 k ∧ Lp f oB g off p n c cur l k w wr) (fun i _ => l.length - (intOf i).toNat)
  case atStart =>
    refine ⟨0, Nat.zero_le _, rfl, rfl, rfl, rfl, by simp, fun b hb _ => ?_, ?_, ?_, cur, ?_, rfl, fun _ _ => rfl, fun j hj => by rw [heads_zero]; exact hcur j hj⟩
    · show ((w.heap.push _).push _)[b]? = _
      rw [Array.getElem?_push, if_neg (by simp; omega), Array.getElem?_push, if_neg (by omega)]
    · show ((w.heap.push _).push _)[_]? = _
      rw [Array.getElem?_push, if_neg (by simp), Array.getElem?_push, if_pos rfl]
    · show ((w.heap.push _).push _)[_]? = _
      rw [Array.getElem?_push, if_pos (by simp)]
    · show ((w.heap.push _).push _)[g]? = _
      rw [Array.getElem?_push, if_neg (by simp; omega), Array.getElem?_push, if_neg (by omega)]
      exact hg
  case round =>
    obtain ⟨k, hk, rfl, hlp⟩ := hrel
    by_cases hlt : k < l.length
    · obtain ⟨x, hx⟩ : ∃ x, l[k]? = some x := ⟨_, List.getElem?_eq_getElem hlt⟩
      have q0 : wr.cell? ⟨w.heap.size, 0, none⟩ = some (.pointer (some ⟨oB, 0, none⟩)) := cellOf hlp.box1 0
      have q1 : wr.cell? ⟨w.heap.size + 1, 0, none⟩ = some (.slice p n c) := cellOf hlp.box2 0
      obtain ⟨cu, o1, o2, o3, o4⟩ := hlp.own
      have hy := heads_get f k l k x hx
      rw [if_neg (Nat.lt_irrefl k)] at hy
      have c0 : wr.cell? ⟨g, off + k * 4, none⟩ = some (.int .i64 (x.s : Int)) := by rw [cellOf o1, o4 _ (by omega), Nat.mul_comm]; exact flatE_get _ k 0 x hy (by omega)
      have c1 : wr.cell? ⟨g, off + k * 4 + 1, none⟩ = some (.int .i64 (x.e : Int)) := by rw [Nat.add_assoc, cellOf o1, o4 _ (by omega), Nat.mul_comm]; exact flatE_get _ k 1 x hy (by omega)
      have c2 : wr.cell? ⟨g, off + k * 4 + 2, none⟩ = some (.int .i64 (x.pd : Int)) := by rw [Nat.add_assoc, cellOf o1, o4 _ (by omega), Nat.mul_comm]; exact flatE_get _ k 2 x hy (by omega)
      have c3 : wr.cell? ⟨g, off + k * 4 + 3, none⟩ = some (.int .u64 (x.h : Int)) := by rw [Nat.add_assoc, cellOf o1, o4 _ (by omega), Nat.mul_comm]; exact flatE_get _ k 3 x hy (by omega)
      have f3 : wr.frozen? ⟨g, off + k * 4 + 3, none⟩ = false := by simp [World.frozen?, o1]
      clear o1 o2 o3 o4 hy
      have hix := hin x (List.mem_of_getElem? hx)
      have HC : Hid (∀ W : World, W.heap = wr.heap → Calls Try.prog 37 #[.pointer (some ⟨oB, 0, none⟩), .slice p n c, .agg #[.int .i64 (x.s : Int), .int .i64 (x.e : Int), .int .i64 (x.pd : Int), .int .u64 (x.h : Int)]] W fun r w' => r = .returned (.int .u64 ((headK 8 (seg f x.s x.e) : Nat) : Int)) ∧ Below W.heap.size W w') := fun W hW => by
        have tr : ∀ (a : Addr) (v : Value), a.block ≠ g → w.cell? a = some v → W.cell? a = some v := fun a v ha hv => by
          rw [← hv]
          exact World.cell?_of_block (by rw [hW]; exact hlp.block _ (World.block_lt_of_cell? _ _ hv) ha)
        have hBW : Bd W p n c f := ⟨fun i hi => by
          obtain ⟨z, hz, hzc⟩ := hB.rd i hi
          exact ⟨z, hz, tr _ _ (by rw [show (z.add i).block = z.block by unfold Addr.add; split <;> rfl]; exact n4 z hz) hzc⟩, hB.nil, hB.blk, hB.le, hB.cap, hB.len, hB.byte⟩
        exact headM_any oB np cp pv p n c f x.s x.e x.pd x.h W hix.2.2 (tr _ _ n1 hc) hBW hix.1 hix.2.1
      have gw : g < wr.heap.size := World.block_lt_of_cell? _ _ c0
      have HL : Hid _ := hlp
      clear hlp hB hin hcur hc
      go_wp2_with fail
      go_region_with (go_at_call 37; refine (HC.out _ (by rfl)).mono ?_; rintro e w1 ⟨rfl, hb1⟩; have k1 := (hb1.cell (p := ⟨g, off + k * 4 + 3, none⟩) gw).trans c3; have k2 : w1.frozen? ⟨g, off + k * 4 + 3, none⟩ = false := (World.frozen?_of_block (a := ⟨g, off + k * 4 + 3, none⟩) (hb1.block g gw)).trans f3)
      all_goals
        have HL2 : Hid _ := (HL.out.drew.grow hgl hb1).store' hgl x hx hfit hlt
        clear hb1 HL
        go_wp2
        go_roundw
        case rel => exact ⟨k + 1, hlt, by go_num, HL2.out⟩
        case measure => simp [intOf]; omega
    · obtain rfl : k = l.length := by omega
      obtain ⟨cu, o1, o2, o3, o4⟩ := hlp.own
      have tr : ∀ (a : Addr) (v : Value), a.block ≠ g → w.cell? a = some v → wr.cell? a = some v := fun a v ha hv => by
        rw [← hv]
        exact World.cell?_of_block (hlp.block _ (World.block_lt_of_cell? _ _ hv) ha)
      have hBW : Bd wr p n c f := ⟨fun i hi => by
        obtain ⟨z, hz, hzc⟩ := hB.rd i hi
        exact ⟨z, hz, tr _ _ (by rw [show (z.add i).block = z.block by unfold Addr.add; split <;> rfl]; exact n4 z hz) hzc⟩, hB.nil, hB.blk, hB.le, hB.cap, hB.len, hB.byte⟩
      have hlen := heads_length f l.length l
      have hs := sortF_any f oB np cp w.heap.size (w.heap.size + 1) g off cap pv p n c cu (heads f l.length l) wr (fun x hx => by
          obtain ⟨j, hj⟩ := List.getElem?_of_mem hx
          obtain ⟨y, hy⟩ : ∃ y, l[j]? = some y := by
            have : j < (heads f l.length l).length := (List.getElem?_eq_some_iff.1 hj).1
            exact ⟨_, List.getElem?_eq_getElem (by omega)⟩
          have hjl : j < l.length := (List.getElem?_eq_some_iff.1 hy).1
          rw [heads_get f l.length l j y hy, if_pos hjl] at hj
          cases hj
          have := hin y (List.mem_of_getElem? hy)
          exact ⟨this.1, this.2.1, this.2.2, rfl⟩) (fun h => hne (List.eq_nil_of_length_eq_zero (by rw [← hlen, h]; rfl))) (by omega) o1 (by rw [hlen]; exact o4) (by rw [hlen, o2]; exact hfit)
        (tr _ _ n1 hc) (cellOf hlp.box1 0) (cellOf hlp.box2 0) hBW n1 (by omega) (by omega) n4
      rw [hlen] at hs
      have HS : Hid _ := hs
      have HL : Hid _ := hlp
      have HO : Hid _ := (⟨o2, o3⟩ : _ ∧ _)
      clear hs hlp hBW tr o1 o2 o3 o4 hB hin hcur hc
      go_wp2_with fail
      refine Calls.mono HS.out ?_
      rintro r w2 ⟨rfl, l', hso⟩
      have HF : Hid (Sorted f g off cur (heads f l.length l) l' w w2) := by
        have hsz0 := HL.out.size
        refine ⟨hso.perm, hso.order, hso.os.trans HL.out.os, hso.tape.trans HL.out.tape, hso.output.trans HL.out.output, by have := hso.size; omega, fun b h1 h2 => (hso.block b (by omega) h2).trans (HL.out.block b h1 h2), ?_⟩
        rw [hso.own]
        have e1 : cu.toList.take off = cur.toList.take off := by
          apply List.ext_getElem?
          intro j
          rw [List.getElem?_take, List.getElem?_take]
          split
          · rw [Array.getElem?_toList, Array.getElem?_toList]; exact HO.out.2 j (.inl (by assumption))
          · rfl
        have e2 : cu.toList.drop (off + (heads f l.length l).length * 4) = cur.toList.drop (off + (heads f l.length l).length * 4) := by
          apply List.ext_getElem?
          intro j
          rw [List.getElem?_drop, List.getElem?_drop, Array.getElem?_toList, Array.getElem?_toList]
          exact HO.out.2 _ (.inr (by rw [hlen]; omega))
        rw [e1, e2]
      clear hso HS HL HO
      go_wp2
      go_end0
      exact ⟨rfl, l', HF.out⟩
end Go.Proofs.Qxb6608761a
