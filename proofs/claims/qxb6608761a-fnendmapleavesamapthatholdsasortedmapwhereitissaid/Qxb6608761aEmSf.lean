import Derived.Test.Qxb6608761aEmSw
namespace Go.Proofs.Qxb6608761a
open Go.RowKit Go.Sort

theorem gr_grow {W w' : World} (h : Gr W w') : ∃ q os', w' = grow (W.drewN q) os' := by
  refine ⟨w'.drawn - W.drawn, w'.heap.extract W.heap.size w'.heap.size, ?_⟩
  have hd := h.drawn
  have hh : W.heap ++ w'.heap.extract W.heap.size w'.heap.size = w'.heap := by
    apply Array.ext_getElem?
    intro k
    by_cases hk : k < W.heap.size
    · rw [Array.getElem?_append_left hk, h.below.block k hk]
    · rw [Array.getElem?_append_right (by omega), Array.getElem?_extract]
      by_cases hk2 : k < w'.heap.size
      · rw [if_pos (by omega), show W.heap.size + (k - W.heap.size) = k by omega]
      · rw [if_neg (by omega), Array.getElem?_eq_none (by omega)]
  unfold grow World.drewN
  rw [show W.drawn + (w'.drawn - W.drawn) = w'.drawn by omega]
  show w' = { W with heap := W.heap ++ _, drawn := w'.drawn }
  rw [hh]
  have h1 := h.below.os
  have h2 := h.below.tape
  have h3 := h.below.output
  cases w'
  cases W
  simp_all

set_option maxRecDepth 20000 in
theorem sortF_any (f : Nat → Nat) (oB np cp bo bb g off cap : Nat) (pv p : Option Addr) (n c : Nat) (cur : Array Value) (l : List Ent) (w : World)
    (hOk : ∀ x ∈ l, Ok f n np x) (hne : l ≠ []) (hsz : l.length ≤ 65536) (hg : w.heap[g]? = some (.cells cur 77 (0, 0))) (hcur : ∀ j, j < l.length * 4 → cur[off + j]? = (flatE l)[j]?) (hfit : off + l.length * 4 ≤ cur.size)
    (hc : w.cell? ⟨oB, 1, none⟩ = some (.slice pv np cp)) (hbo : w.cell? ⟨bo, 0, none⟩ = some (.pointer (some ⟨oB, 0, none⟩))) (hbb : w.cell? ⟨bb, 0, none⟩ = some (.slice p n c)) (hB : Bd w p n c f)
    (n1 : oB ≠ g) (n2 : bo ≠ g) (n3 : bb ≠ g) (n4 : ∀ x, p = some x → x.block ≠ g) :
    Calls Try.prog 38 #[.slice (some ⟨g, off, none⟩) l.length cap, .func (.func 39) #[] #[.pointer (some ⟨bo, 0, none⟩), .pointer (some ⟨bb, 0, none⟩)]] w fun r w' => r = .returned (.tuple #[]) ∧ ∃ l', Sorted f g off cur l l' w w' := by
  obtain ⟨x0, hx0⟩ := List.exists_mem_of_ne_nil l hne
  haveI : Inhabited { x : Ent // Ok f n np x } := ⟨⟨x0, hOk x0 hx0⟩⟩
  obtain ⟨d, hd⟩ : ∃ d : Array { x : Ent // Ok f n np x }, d.toList.map (·.1) = l := ⟨(l.pmap Subtype.mk hOk).toArray, by simp [List.map_pmap]⟩
  have hds : d.size = l.length := by rw [← hd]; simp
  have hgl : g < w.heap.size := by
    by_cases h : g < w.heap.size
    · exact h
    · rw [Array.getElem?_eq_none (by omega)] at hg; cases hg
  have hflat := flatK_flatE d
  rw [hd] at hflat
  have eg : ∀ args w, (callFunc 39 args).run Try.prog w = .ok (.enter 39 args) w := enters_of Try.func39 (by kernel_rfl) rfl
  have hH : HoldsK (fun x : { x : Ent // Ok f n np x } => encE x.1) 4 w g off d := by
    intro j hj
    have hj' : j < l.length * 4 := by simpa [hds] using hj
    refine ⟨?_, by simp [World.frozen?, hg]⟩
    rw [cellOf hg, hcur j hj', ← hflat, Array.getElem?_toList, Array.getElem?_eq_getElem hj, getElem!_pos _ j hj]
    rfl
  have hcmp : CmpLays Try.prog 39 #[.pointer (some ⟨bo, 0, none⟩), .pointer (some ⟨bb, 0, none⟩)] (fun x : { x : Ent // Ok f n np x } => encE x.1) 4 (fun x y => cfE f x.1 y.1) g off d.size w := by
    intro m os dk _ x y
    obtain ⟨W, hW⟩ : ∃ W, W = sortWorldK (fun x : { x : Ent // Ok f n np x } => encE x.1) 4 w g off m dk os := ⟨_, rfl⟩
    rw [← hW]
    have tr : ∀ (a : Addr) (v : Value), a.block ≠ g → w.cell? a = some v → W.cell? a = some v := fun a v ha hv => by
      rw [← hv, hW]
      exact World.cell?_of_block (sw_other _ 4 w g off m dk os a.block (World.block_lt_of_cell? _ _ hv) ha)
    have hBW : Bd W p n c f := ⟨fun i hi => by
      obtain ⟨z, hz, hzc⟩ := hB.rd i hi
      exact ⟨z, hz, tr _ _ (by rw [show (z.add i).block = z.block by unfold Addr.add; split <;> rfl]; exact n4 z hz) hzc⟩, hB.nil, hB.blk, hB.le, hB.cap, hB.len, hB.byte⟩
    have hcl := closure_any oB np cp bo bb pv p n c f x.1.s x.1.e x.1.pd y.1.s y.1.e y.1.pd W x.2.2.2.1 y.2.2.2.1 (tr _ _ n1 hc) (tr _ _ n2 hbo) (tr _ _ n3 hbb) hBW x.2.1 x.2.2.1 y.2.1 y.2.2.1
    rw [← x.2.2.2.2, ← y.2.2.2.2] at hcl
    exact hcl.mono fun r w' h => ⟨h.1, gr_grow h.2⟩
  have hr := AnyQ.slices_SortFunc Try.sortEnt 4 Try.isAgg77 Try.sizeOf77 (fun x : { x : Ent // Ok f n np x } => encE x.1) (fun _ => rfl) (fun x => encE_one x.1) (fun x y => cfE f x.1 y.1) (swoE f n np) 39 #[.pointer (some ⟨bo, 0, none⟩), .pointer (some ⟨bb, 0, none⟩)] g off cap d w eg hcmp hH hgl (by rw [hds]; omega)
  rw [hds] at hr
  change Calls Try.prog 38 _ _ _ at hr
  refine hr.mono ?_
  rintro r w' ⟨rfl, d', nn, os, hp, hs, rfl⟩
  have hds' : d'.size = l.length := hp.1.trans hds
  have hflat' := flatK_flatE d'
  refine ⟨rfl, d'.toList.map (·.1), ?_, ?_, rfl, rfl, rfl, by rw [sw_size]; omega, fun b hb hne => sw_other _ 4 w g off nn d' os b hb hne, ?_⟩
  · have h := hp.2.2
    rw [← hds, Array.extract_size, show d.size = d'.size from hp.1.symm, Array.extract_size] at h
    have h2 := h.map (·.1)
    rwa [hd] at h2
  · rw [List.pairwise_map, List.pairwise_iff_getElem]
    intro i j hi hj hij
    have h := hs i j (Nat.zero_le _) hij (by simpa [hds'] using hj)
    have h' : ¬ cfE f (d'[j]!).1 (d'[i]!).1 < 0 := of_decide_eq_false h
    have hi' : i < d'.size := by simpa using hi
    have hj' : j < d'.size := by simpa using hj
    rw [getElem!_pos d' j hj', getElem!_pos d' i hi'] at h'
    have hsw := cmpN_swap (seg f (d'[i]).1.s (d'[i]).1.e) (seg f (d'[j]).1.s (d'[j]).1.e)
    simp only [Array.getElem_toList]
    unfold cfE at *
    omega
  · rw [sw_own _ 4 w g off nn d' os cur 77 hg, putCells_eq off _ cur (by simp [hds']; exact hfit), hflat']
    simp [hds']
end Go.Proofs.Qxb6608761a
