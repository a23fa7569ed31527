import Derived.Test.Qxb6613595aFmtOrMk4
namespace Go.Proofs.Qxb6613595aFmt
open Go.RowKit Go.Maps

/-- An event, and where its entries lie. -/
structure Ev where
  host : ByteArray
  ne : Nat
  E : Nat → ByteArray × Nat
  eb : Nat
  text : ByteArray
  line : Int
  file : ByteArray
  exec : ByteArray
/-- An event's cells. -/
def Ev.cell (e : Ev) (k : Nat) : Value := match k with
  | 0 => .string e.host
  | 1 => .slice (some ⟨e.eb, 0, none⟩) e.ne e.ne
  | 2 => .string e.text
  | 3 => .int .i64 e.line
  | 4 => .string e.file
  | _ => .string e.exec
def Ev.agg (e : Ev) : Value := .agg #[.string e.host, .slice (some ⟨e.eb, 0, none⟩) e.ne e.ne, .string e.text, .int .i64 e.line, .string e.file, .string e.exec]
/-- Events in memory, below 'base'. -/
structure RdEv (base : Nat) (w : World) (b N : Nat) (ev : Nat → Ev) : Prop where
  blk : b < base
  cell : ∀ i, i < N → ∀ k, k < 6 → w.cell? ⟨b, i * 6 + k, none⟩ = some ((ev i).cell k)
  eb : ∀ i, i < N → (ev i).ne = 0 ∨ (ev i).eb < base
  ent : ∀ i, i < N → RdE w (ev i).eb (ev i).ne (ev i).E
  ne : ∀ i, i < N → (ev i).ne < 1048577
  hs : ∀ i, i < N → (ev i).host.size ≤ 1048576
  es : ∀ i, i < N → ∀ p, p < (ev i).ne → ((ev i).E p).1.size ≤ 1048576 ∧ ((ev i).E p).2 < 18446744073709551616
theorem RdEv.below {base : Nat} {w w' : World} {b N : Nat} {ev : Nat → Ev} (h : RdEv base w b N ev) (hb : Below base w w') : RdEv base w' b N ev :=
  ⟨h.blk, fun i hi k hk => by rw [hb.cell (p := ⟨b, i * 6 + k, none⟩) h.blk]; exact h.cell i hi k hk, h.eb, fun i hi => (h.ent i hi).below hb (h.eb i hi), h.ne, h.hs, h.es⟩
theorem RdEv.six {base : Nat} {w : World} {b N : Nat} {ev : Nat → Ev} (h : RdEv base w b N ev) (i : Nat) (hi : i < N) :
    w.cell? ⟨b, i * 6, none⟩ = some (.string (ev i).host) ∧ w.cell? ⟨b, i * 6 + 1, none⟩ = some (.slice (some ⟨(ev i).eb, 0, none⟩) (ev i).ne (ev i).ne) ∧ w.cell? ⟨b, i * 6 + 2, none⟩ = some (.string (ev i).text) ∧ w.cell? ⟨b, i * 6 + 3, none⟩ = some (.int .i64 (ev i).line) ∧ w.cell? ⟨b, i * 6 + 4, none⟩ = some (.string (ev i).file) ∧ w.cell? ⟨b, i * 6 + 5, none⟩ = some (.string (ev i).exec) :=
  ⟨h.cell i hi 0 (by omega), h.cell i hi 1 (by omega), h.cell i hi 2 (by omega), h.cell i hi 3 (by omega), h.cell i hi 4 (by omega), h.cell i hi 5 (by omega)⟩
/-- How many entries the first m events hold. -/
def sumE (ev : Nat → Ev) : Nat → Nat
  | 0 => 0
  | m + 1 => sumE ev m + (ev m).ne
theorem sumE_mono (ev : Nat → Ev) {a b : Nat} (h : a ≤ b) : sumE ev a ≤ sumE ev b := by
  induction h with
  | refl => exact Nat.le_refl _
  | step _ ih => exact Nat.le_trans ih (by simp [sumE])

/-- The index under construction. -/
structure St (N : Nat) (w0 : World) (evv : Value) (A : Adr) (gI M : Nat) (fi fh fo fw ft fv : Nat → Value) (L : List (List UInt8)) (Ks : List (Nat × Nat)) (sz : Nat) (W : World) : Prop where
  low : Below w0.heap.size w0 W
  box : W.heap[A.x]? = some (.cells #[evv, .map (some A.n), .slice (some ⟨A.ids, 0, none⟩) N N, .slice (some ⟨A.hst, 0, none⟩) N N, .slice (some ⟨A.own, 0, none⟩) N N, .slice (some ⟨A.wt, 0, none⟩) N N, .map (some A.f), .slice (some ⟨A.tw, 0, none⟩) N N, .slice none 0 0] 73 (0, 0))
  num : IMap 9 kvS L L.length A.n W
  fst : IMap 88 kvP Ks sz A.f W
  ids : Row W A.ids N 45 fi
  hst : Row W A.hst N 3 fh
  own : Row W A.own N 42 fo
  wt : Row W A.wt (N * 2) 67 fw
  tw : Row W A.tw N 3 ft
  iv : Row W gI M 3 fv
/-- The places are apart, and new. -/
structure AOk (base : Nat) (A : Adr) (gI : Nat) : Prop where
  ge : ∀ b ∈ gI :: A.list, base ≤ b
  nd : (gI :: A.list).Nodup

variable {base N : Nat} {w0 : World} {evv : Value} {A : Adr} {gI M : Nat} {fi fh fo fw ft fv : Nat → Value} {L : List (List UInt8)} {Ks : List (Nat × Nat)} {sz : Nat} {W : World}
theorem AOk.ne (h : AOk base A gI) : (gI ≠ A.x ∧ gI ≠ A.n ∧ gI ≠ A.ids ∧ gI ≠ A.hst ∧ gI ≠ A.own ∧ gI ≠ A.wt ∧ gI ≠ A.f ∧ gI ≠ A.tw) ∧ (A.x ≠ A.n ∧ A.x ≠ A.ids ∧ A.x ≠ A.hst ∧ A.x ≠ A.own ∧ A.x ≠ A.wt ∧ A.x ≠ A.f ∧ A.x ≠ A.tw) ∧ (A.n ≠ A.ids ∧ A.n ≠ A.hst ∧ A.n ≠ A.own ∧ A.n ≠ A.wt ∧ A.n ≠ A.f ∧ A.n ≠ A.tw) ∧ (A.ids ≠ A.hst ∧ A.ids ≠ A.own ∧ A.ids ≠ A.wt ∧ A.ids ≠ A.f ∧ A.ids ≠ A.tw) ∧ (A.hst ≠ A.own ∧ A.hst ≠ A.wt ∧ A.hst ≠ A.f ∧ A.hst ≠ A.tw) ∧ (A.own ≠ A.wt ∧ A.own ≠ A.f ∧ A.own ≠ A.tw) ∧ (A.wt ≠ A.f ∧ A.wt ≠ A.tw) ∧ A.f ≠ A.tw := by
  have := h.nd
  simp only [Adr.list, List.nodup_cons, List.mem_cons, List.not_mem_nil, or_false, not_or, not_false_eq_true, List.nodup_nil, and_true] at this
  exact this
theorem St.keep {W' : World} (h : St N w0 evv A gI M fi fh fo fw ft fv L Ks sz W) (hb : Below w0.heap.size w0 W') (hk : ∀ b ∈ gI :: A.list, W'.heap[b]? = W.heap[b]?) : St N w0 evv A gI M fi fh fo fw ft fv L Ks sz W' := by
  have k := fun b (hb : b ∈ gI :: A.list) => hk b hb
  refine ⟨hb, (k _ (by simp [Adr.list])).trans h.box, h.num.same (k _ (by simp [Adr.list])), h.fst.same (k _ (by simp [Adr.list])), h.ids.same (k _ (by simp [Adr.list])), h.hst.same (k _ (by simp [Adr.list])), h.own.same (k _ (by simp [Adr.list])), h.wt.same (k _ (by simp [Adr.list])), h.tw.same (k _ (by simp [Adr.list])), h.iv.same (k _ (by simp [Adr.list]))⟩
theorem St.lt (h : St N w0 evv A gI M fi fh fo fw ft fv L Ks sz W) : ∀ b ∈ gI :: A.list, b < W.heap.size := by
  simp only [Adr.list, List.mem_cons, List.not_mem_nil, or_false]
  rintro b (rfl | rfl | rfl | rfl | rfl | rfl | rfl | rfl | rfl)
  · exact h.iv.lt
  · exact blk_lt h.box
  · exact h.num.lt
  · exact h.ids.lt
  · exact h.hst.lt
  · exact h.own.lt
  · exact h.wt.lt
  · exact h.fst.lt
  · exact h.tw.lt
theorem St.below {W' : World} (h : St N w0 evv A gI M fi fh fo fw ft fv L Ks sz W) (hb : Below W.heap.size W W') : St N w0 evv A gI M fi fh fo fw ft fv L Ks sz W' :=
  h.keep (h.low.trans (hb.mono h.low.size)) (fun b hb' => hb.block b (h.lt b hb'))
theorem St.alloc (h : St N w0 evv A gI M fi fh fo fw ft fv L Ks sz W) (o : Obj) : St N w0 evv A gI M fi fh fo fw ft fv L Ks sz (W.alloc o) := h.below ((Below.refl _ W).alloc (Nat.le_refl _) o)
theorem cell_other {w : World} {a : Addr} {v : Value} (h : w.cell? a = some v) {p : Addr} (u : Value) (hne : a.block ≠ p.block) : (w.setCell p u).cell? a = some v := by
  rw [World.cell?_of_block (w := w) (Below.heap_setCell w p u a.block hne)]; exact h
theorem St.setHst (h : St N w0 evv A gI M fi fh fo fw ft fv L Ks sz W) (ok : AOk w0.heap.size A gI) (i : Nat) (v : Value) : St N w0 evv A gI M fi (upd fh i v) fo fw ft fv L Ks sz (W.setCell ⟨A.hst, i, none⟩ v) := by
  obtain ⟨⟨g1, g2, g3, g4, g5, g6, g7, g8⟩, ⟨x1, x2, x3, x4, x5, x6, x7⟩, ⟨n1, n2, n3, n4, n5, n6⟩, ⟨i1, i2, i3, i4, i5⟩, ⟨t1, t2, t3, t4⟩, ⟨o1, o2, o3⟩, ⟨q1, q2⟩, f1⟩ := ok.ne
  have k := fun b (hb : b ≠ A.hst) => Below.heap_setCell W ⟨A.hst, i, none⟩ v b hb
  exact ⟨h.low.setCell (ok.ge _ (by simp [Adr.list])) _, (k _ x3).trans h.box, h.num.same (k _ n2), h.fst.same (k _ (Ne.symm t3)), h.ids.same (k _ i1), h.hst.set i v, h.own.same (k _ (Ne.symm t1)), h.wt.same (k _ (Ne.symm t2)), h.tw.same (k _ (Ne.symm t4)), h.iv.same (k _ g4)⟩
theorem St.setOwn (h : St N w0 evv A gI M fi fh fo fw ft fv L Ks sz W) (ok : AOk w0.heap.size A gI) (i : Nat) (v : Value) : St N w0 evv A gI M fi fh (upd fo i v) fw ft fv L Ks sz (W.setCell ⟨A.own, i, none⟩ v) := by
  obtain ⟨⟨g1, g2, g3, g4, g5, g6, g7, g8⟩, ⟨x1, x2, x3, x4, x5, x6, x7⟩, ⟨n1, n2, n3, n4, n5, n6⟩, ⟨i1, i2, i3, i4, i5⟩, ⟨t1, t2, t3, t4⟩, ⟨o1, o2, o3⟩, ⟨q1, q2⟩, f1⟩ := ok.ne
  have k := fun b (hb : b ≠ A.own) => Below.heap_setCell W ⟨A.own, i, none⟩ v b hb
  exact ⟨h.low.setCell (ok.ge _ (by simp [Adr.list])) _, (k _ x4).trans h.box, h.num.same (k _ n3), h.fst.same (k _ (Ne.symm o2)), h.ids.same (k _ i2), h.hst.same (k _ t1), h.own.set i v, h.wt.same (k _ (Ne.symm o1)), h.tw.same (k _ (Ne.symm o3)), h.iv.same (k _ g5)⟩
theorem St.setWt (h : St N w0 evv A gI M fi fh fo fw ft fv L Ks sz W) (ok : AOk w0.heap.size A gI) (i : Nat) (v : Value) : St N w0 evv A gI M fi fh fo (upd fw i v) ft fv L Ks sz (W.setCell ⟨A.wt, i, none⟩ v) := by
  obtain ⟨⟨g1, g2, g3, g4, g5, g6, g7, g8⟩, ⟨x1, x2, x3, x4, x5, x6, x7⟩, ⟨n1, n2, n3, n4, n5, n6⟩, ⟨i1, i2, i3, i4, i5⟩, ⟨t1, t2, t3, t4⟩, ⟨o1, o2, o3⟩, ⟨q1, q2⟩, f1⟩ := ok.ne
  have k := fun b (hb : b ≠ A.wt) => Below.heap_setCell W ⟨A.wt, i, none⟩ v b hb
  exact ⟨h.low.setCell (ok.ge _ (by simp [Adr.list])) _, (k _ x5).trans h.box, h.num.same (k _ n4), h.fst.same (k _ (Ne.symm q1)), h.ids.same (k _ i3), h.hst.same (k _ t2), h.own.same (k _ o1), h.wt.set i v, h.tw.same (k _ (Ne.symm q2)), h.iv.same (k _ g6)⟩
theorem St.setTw (h : St N w0 evv A gI M fi fh fo fw ft fv L Ks sz W) (ok : AOk w0.heap.size A gI) (i : Nat) (v : Value) : St N w0 evv A gI M fi fh fo fw (upd ft i v) fv L Ks sz (W.setCell ⟨A.tw, i, none⟩ v) := by
  obtain ⟨⟨g1, g2, g3, g4, g5, g6, g7, g8⟩, ⟨x1, x2, x3, x4, x5, x6, x7⟩, ⟨n1, n2, n3, n4, n5, n6⟩, ⟨i1, i2, i3, i4, i5⟩, ⟨t1, t2, t3, t4⟩, ⟨o1, o2, o3⟩, ⟨q1, q2⟩, f1⟩ := ok.ne
  have k := fun b (hb : b ≠ A.tw) => Below.heap_setCell W ⟨A.tw, i, none⟩ v b hb
  exact ⟨h.low.setCell (ok.ge _ (by simp [Adr.list])) _, (k _ x7).trans h.box, h.num.same (k _ n6), h.fst.same (k _ f1), h.ids.same (k _ i5), h.hst.same (k _ t4), h.own.same (k _ o3), h.wt.same (k _ q2), h.tw.set i v, h.iv.same (k _ g8)⟩
theorem St.setIds (h : St N w0 evv A gI M fi fh fo fw ft fv L Ks sz W) (ok : AOk w0.heap.size A gI) (i : Nat) (v : Value) : St N w0 evv A gI M (upd fi i v) fh fo fw ft fv L Ks sz (W.setCell ⟨A.ids, i, none⟩ v) := by
  obtain ⟨⟨g1, g2, g3, g4, g5, g6, g7, g8⟩, ⟨x1, x2, x3, x4, x5, x6, x7⟩, ⟨n1, n2, n3, n4, n5, n6⟩, ⟨i1, i2, i3, i4, i5⟩, ⟨t1, t2, t3, t4⟩, ⟨o1, o2, o3⟩, ⟨q1, q2⟩, f1⟩ := ok.ne
  have k := fun b (hb : b ≠ A.ids) => Below.heap_setCell W ⟨A.ids, i, none⟩ v b hb
  exact ⟨h.low.setCell (ok.ge _ (by simp [Adr.list])) _, (k _ x2).trans h.box, h.num.same (k _ n1), h.fst.same (k _ (Ne.symm i4)), h.ids.set i v, h.hst.same (k _ (Ne.symm i1)), h.own.same (k _ (Ne.symm i2)), h.wt.same (k _ (Ne.symm i3)), h.tw.same (k _ (Ne.symm i5)), h.iv.same (k _ g3)⟩
theorem St.setIv (h : St N w0 evv A gI M fi fh fo fw ft fv L Ks sz W) (ok : AOk w0.heap.size A gI) (i : Nat) (v : Value) : St N w0 evv A gI M fi fh fo fw ft (upd fv i v) L Ks sz (W.setCell ⟨gI, i, none⟩ v) := by
  obtain ⟨⟨g1, g2, g3, g4, g5, g6, g7, g8⟩, _⟩ := ok.ne
  have k := fun b (hb : gI ≠ b) => Below.heap_setCell W ⟨gI, i, none⟩ v b (Ne.symm hb)
  exact ⟨h.low.setCell (ok.ge _ (by simp [Adr.list])) _, (k _ g1).trans h.box, h.num.same (k _ g2), h.fst.same (k _ g7), h.ids.same (k _ g3), h.hst.same (k _ g4), h.own.same (k _ g5), h.wt.same (k _ g6), h.tw.same (k _ g8), h.iv.set i v⟩
theorem St.number {W' : World} {L' : List (List UInt8)} (h : St N w0 evv A gI M fi fh fo fw ft fv L Ks sz W) (ok : AOk w0.heap.size A gI) (hg : W.grownBy W' (some A.n)) (hm : IMap 9 kvS L' L'.length A.n W') : St N w0 evv A gI M fi fh fo fw ft fv L' Ks sz W' := by
  obtain ⟨⟨g1, g2, g3, g4, g5, g6, g7, g8⟩, ⟨x1, x2, x3, x4, x5, x6, x7⟩, ⟨n1, n2, n3, n4, n5, n6⟩, ⟨i1, i2, i3, i4, i5⟩, ⟨t1, t2, t3, t4⟩, ⟨o1, o2, o3⟩, ⟨q1, q2⟩, f1⟩ := ok.ne
  have hl := h.lt
  have k := fun b (hb : b ∈ gI :: A.list) (hn : b ≠ A.n) => hg.block b (hl b hb) (fun e => hn (by cases e; rfl))
  exact ⟨h.low.grown hg h.low.size (fun k e => by cases e; exact ok.ge _ (by simp [Adr.list])), (k _ (by simp [Adr.list]) x1).trans h.box, hm, h.fst.same (k _ (by simp [Adr.list]) (Ne.symm n5)), h.ids.same (k _ (by simp [Adr.list]) (Ne.symm n1)), h.hst.same (k _ (by simp [Adr.list]) (Ne.symm n2)), h.own.same (k _ (by simp [Adr.list]) (Ne.symm n3)), h.wt.same (k _ (by simp [Adr.list]) (Ne.symm n4)), h.tw.same (k _ (by simp [Adr.list]) (Ne.symm n6)), h.iv.same (k _ (by simp) g2)⟩
theorem St.first {W' : World} {K' : List (Nat × Nat)} {sz' : Nat} (h : St N w0 evv A gI M fi fh fo fw ft fv L Ks sz W) (ok : AOk w0.heap.size A gI) (hg : W.grownBy W' (some A.f)) (hm : IMap 88 kvP K' sz' A.f W') : St N w0 evv A gI M fi fh fo fw ft fv L K' sz' W' := by
  obtain ⟨⟨g1, g2, g3, g4, g5, g6, g7, g8⟩, ⟨x1, x2, x3, x4, x5, x6, x7⟩, ⟨n1, n2, n3, n4, n5, n6⟩, ⟨i1, i2, i3, i4, i5⟩, ⟨t1, t2, t3, t4⟩, ⟨o1, o2, o3⟩, ⟨q1, q2⟩, f1⟩ := ok.ne
  have hl := h.lt
  have k := fun b (hb : b ∈ gI :: A.list) (hn : b ≠ A.f) => hg.block b (hl b hb) (fun e => hn (by cases e; rfl))
  exact ⟨h.low.grown hg h.low.size (fun k e => by cases e; exact ok.ge _ (by simp [Adr.list])), (k _ (by simp [Adr.list]) x6).trans h.box, h.num.same (k _ (by simp [Adr.list]) n5), hm, h.ids.same (k _ (by simp [Adr.list]) i4), h.hst.same (k _ (by simp [Adr.list]) t3), h.own.same (k _ (by simp [Adr.list]) o2), h.wt.same (k _ (by simp [Adr.list]) q1), h.tw.same (k _ (by simp [Adr.list]) (Ne.symm f1)), h.iv.same (k _ (by simp) g7)⟩
end Go.Proofs.Qxb6613595aFmt
