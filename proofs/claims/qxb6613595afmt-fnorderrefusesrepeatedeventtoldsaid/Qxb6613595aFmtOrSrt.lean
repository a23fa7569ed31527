import Derived.Test.Qxb6613595aFmtOrSrt0
namespace Go.Proofs.Qxb6613595aFmt
open Go.RowKit Go.Maps Go.Sort
attribute [local go_sem ↓] Go.wp_at_zero Go.wp_at_succ
set_option linter.unusedVariables false

abbrev NI (N : Nat) := { x : Nat // x < N }
def encI {N : Nat} (x : NI N) : Value := .int .i64 (x.1 : Nat)
def encE2 {H N : Nat} (x : NE H N) : List Value := [.int .i64 (x.1.1 : Nat), .int .i64 (x.1.2 : Nat)]

theorem perm_all {α : Type} [Inhabited α] {d d' : Array α} (h : PermIn 0 d.size d d') : d'.toList.Perm d.toList := by
  have h2 := h.2.2
  rw [Array.extract_size, show d.size = d'.size from h.1.symm, Array.extract_size] at h2
  exact h2

set_option maxRecDepth 20000 in
/-- The sort of the events that are to be looked at. -/
theorem sort18_any (xB bx gW N B : Nat) (f : Nat → Nat × Nat) (v : Value) (xs : List (NI N)) (w : World) (hv : w.ownsRow B 3 1 v xs.length (xs.map encI)) (hsz : xs.length ≤ 65536)
    (h0 : w.cell? ⟨bx, 0, none⟩ = some (.pointer (some ⟨xB, 0, none⟩))) (h5 : w.cell? ⟨xB, 5, none⟩ = some (.slice (some ⟨gW, 0, none⟩) N N)) (hW : RdW w gW N f)
    (n1 : some bx ≠ v.ownBlock) (n2 : some xB ≠ v.ownBlock) (n3 : some gW ≠ v.ownBlock) :
    Calls Tryf.prog 18 #[v, .func (.func 19) #[] #[.pointer (some ⟨bx, 0, none⟩)]] w fun e w' => e = .returned (.tuple #[]) ∧ FrA v.ownBlock w w' ∧ ∃ ys : List (NI N), ys.Perm xs ∧ w'.ownsRow B 3 1 v ys.length (ys.map encI) := by
  by_cases hne : xs = []
  · subst hne
    obtain ⟨q, c, rfl⟩ : ∃ q c, v = .slice q 0 c := own_shape hv
    refine (srt18 q c _ w).mono ?_
    rintro e w' ⟨rfl, rfl⟩
    exact ⟨rfl, ⟨rfl, rfl, rfl, Nat.le_refl _, fun _ _ _ => rfl⟩, [], List.Perm.refl _, hv⟩
  · obtain ⟨x0, hx0⟩ := List.exists_mem_of_ne_nil xs hne
    haveI : Inhabited (NI N) := ⟨x0⟩
    rcases hv.2 with ⟨_, hz⟩ | ⟨g, cap, cur, rfl, hbg, hg, hnc, hcm, hcs, hct⟩
    · exact absurd (List.length_eq_zero_iff.1 hz) hne
    simp only [Value.ownBlock] at n1 n2 n3 ⊢
    obtain ⟨d, hd⟩ : ∃ d : Array (NI N), d.toList = xs := ⟨xs.toArray, by simp⟩
    have hds : d.size = xs.length := by rw [← hd]; simp
    have hgl : g < w.heap.size := blk_lt hg
    have eg : ∀ args w, (callFunc 19 args).run Tryf.prog w = .ok (.enter 19 args) w := enters_of Tryf.func19 (by kernel_rfl) rfl
    have hH : Holds (encI (N := N)) w g 0 d := by
      intro j hj
      refine ⟨?_, by simp [World.frozen?, hg]⟩
      rw [cell_blk hg, Nat.zero_add]
      have h1 : (cur.toList.take (xs.length * 1))[j]? = (xs.map encI)[j]? := by rw [hct]
      rw [List.getElem?_take, if_pos (by omega), Array.getElem?_toList, List.getElem?_map, ← hd, Array.getElem?_toList, Array.getElem?_eq_getElem hj] at h1
      rw [h1, getElem!_pos d j hj]; rfl
    have hcmp : CmpLays1 Tryf.prog 19 #[.pointer (some ⟨bx, 0, none⟩)] (encI (N := N)) (fun x y => cmpW (f x.1) (f y.1)) g 0 d.size w := by
      intro m os dk _ x y
      obtain ⟨W, hW'⟩ : ∃ W, W = sortWorld (encI (N := N)) w g 0 m dk os := ⟨_, rfl⟩
      rw [← hW']
      have tr : ∀ (a : Addr) (v : Value), a.block ≠ g → w.cell? a = some v → W.cell? a = some v := fun a v ha hv => by
        rw [← hv, hW']
        exact World.cell?_of_block (sw1_other _ w g 0 m dk os a.block (World.block_lt_of_cell? _ _ hv) ha)
      exact (lessD_any xB bx gW N f x.1 y.1 W (tr _ _ (fun e => n1 (by rw [← e])) h0) (tr _ _ (fun e => n2 (by rw [← e])) h5) (fun i hi => ⟨tr _ _ (fun e => n3 (by rw [← e])) (hW i hi).1, tr _ _ (fun e => n3 (by rw [← e])) (hW i hi).2⟩) x.2 y.2).mono fun r w' h => ⟨h.1, gr_grow h.2⟩
    have hr := Any.slices_SortFunc Tryf.sortInt (encI (N := N)) (fun _ => rfl) (fun x y => cmpW (f x.1) (f y.1)) (swo_up fun x : NI N => f x.1) 19 #[.pointer (some ⟨bx, 0, none⟩)] g 0 cap d w eg hcmp hH hgl (by rw [hds]; omega)
    rw [hds] at hr
    change Calls Tryf.prog 18 _ _ _ at hr
    refine hr.mono ?_
    rintro r w' ⟨rfl, d', nn, os, hp, _, rfl⟩
    rw [← hds] at hp
    have hds' : d'.size = xs.length := hp.1.trans hds
    have hpp := perm_all hp
    rw [hd] at hpp
    refine ⟨rfl, ⟨rfl, rfl, rfl, by rw [sw1_size]; omega, fun b hb hne => sw1_other _ w g 0 nn d' os b hb (fun e => hne (by rw [e]))⟩, d'.toList, hpp, by simp, .inr ⟨g, cap, putCells encI 0 d' cur, by rw [show d'.toList.length = xs.length by simp [hds']], hbg, sw1_own _ w g 0 nn d' os cur 3 hg, by simp [hds']; exact hnc, hcm, by rw [put_size]; exact hcs, ?_⟩⟩
    rw [Nat.mul_one, Array.length_toList]
    exact put_take encI d' cur (by omega)

theorem flatN_get {H N : Nat} : ∀ (l : List (NE H N)) (i j : Nat) (x : NE H N), l[i]? = some x → j < 2 → (flatN l)[2 * i + j]? = (encE2 x)[j]?
  | [], _, _, _, h, _ => by simp at h
  | y :: l, 0, j, x, h, hj => by
    simp at h
    subst h
    rw [flatN, List.flatMap_cons, Nat.mul_zero, Nat.zero_add, List.getElem?_append_left (by simpa using hj)]
    rfl
  | y :: l, i + 1, j, x, h, hj => by
    have ih := flatN_get l i j x (by simpa using h) hj
    rw [flatN, List.flatMap_cons, List.getElem?_append_right (by simp; omega)]
    simp only [List.length_cons, List.length_nil]
    rw [show 2 * (i + 1) + j - (0 + 1 + 1) = 2 * i + j by omega]
    exact ih
theorem flatN_len {H N : Nat} (l : List (NE H N)) : (flatN l).length = l.length * 2 := by
  induction l with
  | nil => rfl
  | cons x l ih => simp [flatN] at ih ⊢; omega
theorem flatK_flatN {H N : Nat} [Inhabited (NE H N)] (d : Array (NE H N)) : (flatK (encE2 (H := H) (N := N)) 2 d).toList = flatN d.toList := by
  apply List.ext_getElem?
  intro t
  by_cases ht : t < d.size * 2
  · have h4 : t / 2 < d.size := by omega
    have e1 : d.toList[t / 2]? = some (d[t / 2]!) := by
      rw [Array.getElem?_toList, Array.getElem?_eq_getElem h4, getElem!_pos d (t / 2) h4]
    have e2 := flatN_get d.toList (t / 2) (t % 2) _ e1 (Nat.mod_lt _ (by omega))
    rw [Nat.div_add_mod] at e2
    rw [e2, Array.getElem?_toList]
    have e3 := get_flatK (encE2 (H := H) (N := N)) 2 d t ht
    rw [Array.getElem?_eq_getElem (by simpa using ht), ← getElem!_pos _ t (by simpa using ht), e3]
    have h5 : t % 2 < (encE2 (d[t / 2]!)).length := by simp [encE2]; omega
    rw [List.getElem?_eq_getElem h5, getElem!_pos _ (t % 2) h5]
  · rw [List.getElem?_eq_none (by simpa using ht), List.getElem?_eq_none (by rw [flatN_len]; simpa using ht)]

set_option maxRecDepth 20000 in
/-- The sort of the named events. -/
theorem sort40_any (xB bx gW N B H : Nat) (f : Nat → Nat × Nat) (v : Value) (xs : List (NE H N)) (w : World) (hv : w.ownsRow B 52 2 v xs.length (flatN xs)) (hsz : xs.length ≤ 1048577)
    (h0 : w.cell? ⟨bx, 0, none⟩ = some (.pointer (some ⟨xB, 0, none⟩))) (h5 : w.cell? ⟨xB, 5, none⟩ = some (.slice (some ⟨gW, 0, none⟩) N N)) (hW : RdW w gW N f)
    (n1 : some bx ≠ v.ownBlock) (n2 : some xB ≠ v.ownBlock) (n3 : some gW ≠ v.ownBlock) :
    Calls Tryf.prog 40 #[v, .func (.func 41) #[] #[.pointer (some ⟨bx, 0, none⟩)]] w fun e w' => e = .returned (.tuple #[]) ∧ FrA v.ownBlock w w' ∧ ∃ ys : List (NE H N), ys.Perm xs ∧ w'.ownsRow B 52 2 v ys.length (flatN ys) := by
  by_cases hne : xs = []
  · subst hne
    obtain ⟨q, c, rfl⟩ : ∃ q c, v = .slice q 0 c := own_shape hv
    refine (srt40 q c _ w).mono ?_
    rintro e w' ⟨rfl, rfl⟩
    exact ⟨rfl, ⟨rfl, rfl, rfl, Nat.le_refl _, fun _ _ _ => rfl⟩, [], List.Perm.refl _, hv⟩
  · obtain ⟨x0, hx0⟩ := List.exists_mem_of_ne_nil xs hne
    haveI : Inhabited (NE H N) := ⟨x0⟩
    rcases hv.2 with ⟨_, hz⟩ | ⟨g, cap, cur, rfl, hbg, hg, hnc, hcm, hcs, hct⟩
    · exact absurd (List.length_eq_zero_iff.1 hz) hne
    simp only [Value.ownBlock] at n1 n2 n3 ⊢
    obtain ⟨d, hd⟩ : ∃ d : Array (NE H N), d.toList = xs := ⟨xs.toArray, by simp⟩
    have hds : d.size = xs.length := by rw [← hd]; simp
    have hgl : g < w.heap.size := blk_lt hg
    have eg : ∀ args w, (callFunc 41 args).run Tryf.prog w = .ok (.enter 41 args) w := enters_of Tryf.func41 (by kernel_rfl) rfl
    have hflat := flatK_flatN d
    rw [hd] at hflat
    have hH : HoldsK (encE2 (H := H) (N := N)) 2 w g 0 d := by
      intro j hj
      have hj' : j < xs.length * 2 := by simpa [hds] using hj
      refine ⟨?_, by simp [World.frozen?, hg]⟩
      rw [cell_blk hg, Nat.zero_add]
      have h1 : (cur.toList.take (xs.length * 2))[j]? = (flatN xs)[j]? := by rw [hct]
      rw [List.getElem?_take, if_pos hj', Array.getElem?_toList, ← hflat, Array.getElem?_toList, Array.getElem?_eq_getElem hj] at h1
      rw [h1, getElem!_pos _ j hj]
      rfl
    have hcmp : CmpLays Tryf.prog 41 #[.pointer (some ⟨bx, 0, none⟩)] (encE2 (H := H) (N := N)) 2 (fun x y => cmpW (f y.1.2) (f x.1.2)) g 0 d.size w := by
      intro m os dk _ x y
      obtain ⟨W, hW'⟩ : ∃ W, W = sortWorldK (encE2 (H := H) (N := N)) 2 w g 0 m dk os := ⟨_, rfl⟩
      rw [← hW']
      have tr : ∀ (a : Addr) (v : Value), a.block ≠ g → w.cell? a = some v → W.cell? a = some v := fun a v ha hv => by
        rw [← hv, hW']
        exact World.cell?_of_block (swK_other _ 2 w g 0 m dk os a.block (World.block_lt_of_cell? _ _ hv) ha)
      exact (less2D_any xB bx gW N f x.1.1 y.1.1 x.1.2 y.1.2 W (tr _ _ (fun e => n1 (by rw [← e])) h0) (tr _ _ (fun e => n2 (by rw [← e])) h5) (fun i hi => ⟨tr _ _ (fun e => n3 (by rw [← e])) (hW i hi).1, tr _ _ (fun e => n3 (by rw [← e])) (hW i hi).2⟩) x.2.2 y.2.2).mono fun r w' h => ⟨h.1, gr_grow h.2⟩
    have hr := AnyQ.slices_SortFunc Tryf.sortNe 2 Tryf.isAgg52 Tryf.sizeOf52 (encE2 (H := H) (N := N)) (fun _ => rfl) (fun x v hv => by simp [encE2] at hv; rcases hv with rfl | rfl <;> rfl) (fun x y => cmpW (f y.1.2) (f x.1.2)) (swo_down fun x : NE H N => f x.1.2) 41 #[.pointer (some ⟨bx, 0, none⟩)] g 0 cap d w eg hcmp hH hgl (by rw [hds]; omega)
    rw [hds] at hr
    change Calls Tryf.prog 40 _ _ _ at hr
    refine hr.mono ?_
    rintro r w' ⟨rfl, d', nn, os, hp, _, rfl⟩
    rw [← hds] at hp
    have hds' : d'.size = xs.length := hp.1.trans hds
    have hpp := perm_all hp
    rw [hd] at hpp
    have hfl' := flatK_flatN d'
    refine ⟨rfl, ⟨rfl, rfl, rfl, by rw [swK_size]; omega, fun b hb hne => swK_other _ 2 w g 0 nn d' os b hb (fun e => hne (by rw [e]))⟩, d'.toList, hpp, flatN_len _, .inr ⟨g, cap, putCells id 0 (flatK encE2 2 d') cur, by rw [show d'.toList.length = xs.length by simp [hds']], hbg, swK_own _ 2 w g 0 nn d' os cur 52 hg, by simp [hds']; exact hnc, hcm, by rw [put_size]; exact hcs, ?_⟩⟩
    have hfs : (flatK (encE2 (H := H) (N := N)) 2 d').size = d'.size * 2 := by simp
    have hpt := put_take id (flatK (encE2 (H := H) (N := N)) 2 d') cur (by rw [hfs, hds', hcs]; exact Nat.mul_le_mul_right 2 hnc)
    rw [hfs, List.map_id, hfl'] at hpt
    rw [Array.length_toList]
    exact hpt
end Go.Proofs.Qxb6613595aFmt
