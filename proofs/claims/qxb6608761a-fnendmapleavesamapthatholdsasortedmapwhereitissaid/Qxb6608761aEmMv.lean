import Derived.Test.Qxb6608761aEmCat2
namespace Go.Proofs.Qxb6608761a
open Go.RowKit Go.Sort

structure Scr (w W1 : World) (q : Option Addr) (m k : Nat) (g : Nat → Nat) : Prop where
  rd : Rd W1 q m g
  below : Below w.heap.size w W1
  le : m ≤ k
  nil : q = none → m = 0 ∧ k = 0
  new : ∀ x, q = some x → ∃ sb, x = ⟨sb, 0, none⟩ ∧ w.heap.size ≤ sb ∧ sb < W1.heap.size
theorem appendScr (w : World) (m : Nat) (sp : Option Addr) (c : Nat) (g : Nat → Nat) (hs : ∀ i, i < m → ∃ x, sp = some x ∧ w.cell? (x.add i) = some (.int .u8 (g i : Int))) (hnil : sp = none → m = 0 ∧ c = 0) (hm : m ≤ 1048576) :
    ∃ q k W1, Sem.run Try.prog (Builtin.append_ #[38, 38] 38 #[.slice none 0 0, .slice sp m c]) w = .ok (.slice q m k) W1 ∧ Scr w W1 q m k g := by
  obtain ⟨i, hi, hz, hsz, hby⟩ := info_parts info5
  cases sp with
  | none =>
    obtain ⟨rfl, rfl⟩ := hnil rfl
    exact ⟨none, 0, w, run_append_owned_none (P := Try.prog) w 0 38 38 5 i 1 Try.underlying38 hi _ 0 [] (World.ownsRow_nil _ _ _ _), fun i hi => by omega, Below.refl _ _, Nat.le_refl _, fun _ => ⟨rfl, rfl⟩, fun x hx => by cases hx⟩
  | some x =>
    have hcell : ∀ j u, (rowB m g)[j]? = some u → w.cell? (x.add j) = some u := fun j v hj => by
      have hjm : j < m := by
        by_cases hh : j < m
        · exact hh
        · rw [List.getElem?_eq_none (by rw [rowB_length]; omega)] at hj; cases hj
      obtain ⟨y, hy, hc⟩ := hs j hjm
      cases hy
      rw [rowB_get _ _ _ hjm] at hj; cases hj
      exact hc
    obtain ⟨v', w', hr, ho, hg, _⟩ := run_append_own (P := Try.prog) w w.heap.size 38 38 5 i _ 1 1 Try.underlying38 hi hz hsz hby rfl (by decide) (.slice none 0 0) 0 [] (World.ownsRow_nil _ _ _ _) x m c (rowB m g) (by rw [rowB_length]; omega) hcell (rowB_one _ _) (by simp only [maxLen]; omega) (by omega) (Nat.le_refl _)
    rw [Nat.zero_add, List.nil_append] at ho
    have hbl : Below w.heap.size w w' := ⟨hg.os, hg.tape, hg.output, hg.size, fun b hb => hg.block b hb (by simp [Value.ownBlock])⟩
    rcases ho.2 with ⟨rfl, rfl⟩ | ⟨sb, cap, cur, rfl, h1, h2, h3, h4, h5, h6⟩
    · exact ⟨none, 0, w', hr, fun i hi => by omega, hbl, Nat.le_refl _, fun _ => ⟨rfl, rfl⟩, fun x hx => by cases hx⟩
    · refine ⟨_, cap, w', hr, fun i hi => ⟨_, rfl, ?_⟩, hbl, h3, (fun h => by cases h), fun y hy => ?_⟩
      · exact ho.cells (g := sb) rfl i _ (rowB_get _ _ _ hi)
      · cases hy; exact ⟨sb, rfl, h1, blk_lt h2⟩

def catE (f : Nat → Nat) (l : List Ent) : List Nat := l.flatMap fun x => seg f x.s x.e
def mvF (f : Nat → Nat) (start : Nat) (L : List Nat) (i : Nat) : Nat := if start ≤ i ∧ i < start + L.length then L.getD (i - start) 0 else f i
theorem catE_take (f : Nat → Nat) (l : List Ent) (k : Nat) (x : Ent) (h : l[k]? = some x) : catE f (l.take (k + 1)) = catE f (l.take k) ++ seg f x.s x.e := by
  rw [List.take_add_one, h]; simp [catE]
theorem catE_le (f : Nat → Nat) (l : List Ent) (k : Nat) : (catE f (l.take k)).length ≤ (catE f l).length := by
  have h : catE f l = catE f (l.take k) ++ catE f (l.drop k) := by unfold catE; rw [← List.flatMap_append, List.take_append_drop]
  have h2 := congrArg List.length h
  rw [List.length_append] at h2
  omega
theorem mvF_next (f : Nat → Nat) (start : Nat) (L : List Nat) (s e i : Nat) : (if start + L.length ≤ i ∧ i < start + L.length + (e - s) then f (s + (i - (start + L.length))) else mvF f start L i) = mvF f start (L ++ seg f s e) i := by
  unfold mvF
  rw [List.length_append, seg_length]
  by_cases h1 : start + L.length ≤ i ∧ i < start + L.length + (e - s)
  · rw [if_pos h1, if_pos (by omega), List.getD_eq_getElem?_getD, List.getElem?_append_right (by omega), seg_get _ (by omega)]
    simp only [Option.getD_some]
    congr 1; omega
  · rw [if_neg h1]
    by_cases h2 : start ≤ i ∧ i < start + L.length
    · rw [if_pos h2, if_pos (by omega), List.getD_eq_getElem?_getD, List.getD_eq_getElem?_getD, List.getElem?_append_left (by omega)]
    · rw [if_neg h2, if_neg (by omega)]
theorem mvF_nil (f : Nat → Nat) (start i : Nat) : mvF f start [] i = f i := by
  unfold mvF; rw [if_neg (by simp)]

structure Mv (base : Nat) (f : Nat → Nat) (p : Option Addr) (N start : Nat) (l : List Ent) (k : Nat) (w2 wr : World) : Prop where
  os : wr.os = w2.os
  tape : wr.tape = w2.tape
  output : wr.output = w2.output
  size : w2.heap.size ≤ wr.heap.size
  keep : ∀ b, b < w2.heap.size → (∀ x, p = some x → b ≠ x.block) → wr.heap[b]? = w2.heap[b]?
  body : BB wr base p N (mvF f start (catE f (l.take k)))
theorem Mv.cell {base : Nat} {f : Nat → Nat} {p : Option Addr} {N start : Nat} {l : List Ent} {k : Nat} {w2 wr : World} (h : Mv base f p N start l k w2 wr) {a : Addr} {v : Value} (hc : w2.cell? a = some v) (hne : ∀ x, p = some x → a.block ≠ x.block) : wr.cell? a = some v := by
  rw [← hc]; exact World.cell?_of_block (h.keep _ (World.block_lt_of_cell? _ _ hc) hne)
theorem Mv.grow {base : Nat} {f : Nat → Nat} {p : Option Addr} {N start : Nat} {l : List Ent} {k : Nat} {w2 wr : World} (h : Mv base f p N start l k w2 wr) (o : Obj) : Mv base f p N start l k w2 (wr.alloc o).drew :=
  ⟨h.os, h.tape, h.output, by show _ ≤ (wr.alloc o).heap.size; simp; have := h.size; omega, fun b hb hn => by show (wr.alloc o).heap[b]? = _; rw [Below.heap_alloc _ _ _ (by have := h.size; omega)]; exact h.keep b hb hn, h.body.below (below_box wr o).drew⟩
theorem Mv.skip {base : Nat} {f : Nat → Nat} {p : Option Addr} {N start : Nat} {l : List Ent} {k : Nat} {w2 wr : World} (h : Mv base f p N start l k w2 wr) (x : Ent) (hx : l[k]? = some x) (he : x.s = x.e) : Mv base f p N start l (k + 1) w2 wr := by
  refine ⟨h.os, h.tape, h.output, h.size, h.keep, ?_⟩
  rw [catE_take f l k x hx, seg_nil (by omega), List.append_nil]; exact h.body
theorem Mv.copy {base : Nat} {f : Nat → Nat} {b N start : Nat} {l : List Ent} {k : Nat} {w2 wr : World} (h : Mv base f (some ⟨b, 0, none⟩) N start l k w2 wr) (x : Ent) (hx : l[k]? = some x) :
    Mv base f (some ⟨b, 0, none⟩) N start l (k + 1) w2 (wr.setRow b (rowB N (fun i => if start + (catE f (l.take k)).length ≤ i ∧ i < start + (catE f (l.take k)).length + (x.e - x.s) then f (x.s + (i - (start + (catE f (l.take k)).length))) else mvF f start (catE f (l.take k)) i)).toArray) := by
  refine ⟨h.os, h.tape, h.output, by have := h.size; simp [World.setRow]; omega, fun c hc hn => ?_, ?_⟩
  · rw [setRow_other wr b c _ (hn _ rfl)]; exact h.keep c hc hn
  · rcases h.body with ⟨h1, _⟩ | ⟨b', h1, h2, h3⟩
    · cases h1
    · cases h1
      refine .inr ⟨b, rfl, h2, ?_⟩
      rw [setRow_heap wr b _ _ 5 _ h3, rowB_congr fun i _ => mvF_next f start _ x.s x.e i, catE_take f l k x hx]
end Go.Proofs.Qxb6608761a
