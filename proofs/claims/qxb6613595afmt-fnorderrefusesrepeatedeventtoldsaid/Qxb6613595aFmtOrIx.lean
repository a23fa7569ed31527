import Derived.Test.Qxb6613595aFmtOrRnd
namespace Go.Proofs.Qxb6613595aFmt
open Go.RowKit Go.Maps
attribute [local go_sem ↓] Go.wp_at_zero Go.wp_at_succ
set_option linter.unusedVariables false

/-- What the index holds. -/
structure IxD where
  A : Adr
  gI : Nat
  gC : Nat
  H : Nat
  off : Nat → Nat
  id : Nat → Nat → Nat
  hs : Nat → Nat
  own : Nat → Nat
  W : Nat → Nat × Nat
  T : Nat → Int
  cnt : Nat → Nat
  Ks : List (Nat × Nat)
  sz : Nat
  L : List (List UInt8)
structure Idx (B evB N C : Nat) (ev : Nat → Ev) (D : IxD) (w : World) : Prop where
  evs : RdEv B w evB N ev
  nN : N ≤ 4098
  nH : D.H ≤ 1048576 * 2
  box : w.heap[D.A.x]? = some (.cells #[.slice (some ⟨evB, 0, none⟩) N C, .map (some D.A.n), .slice (some ⟨D.A.ids, 0, none⟩) N N, .slice (some ⟨D.A.hst, 0, none⟩) N N, .slice (some ⟨D.A.own, 0, none⟩) N N, .slice (some ⟨D.A.wt, 0, none⟩) N N, .map (some D.A.f), .slice (some ⟨D.A.tw, 0, none⟩) N N, .slice (some ⟨D.gC, 0, none⟩) D.H D.H] 73 (0, 0))
  lt : ∀ b ∈ D.gC :: D.gI :: D.A.list, b < B
  ids : ∀ i, i < N → w.cell? ⟨D.A.ids, i, none⟩ = some (.slice (some ⟨D.gI, D.off i, none⟩) (ev i).ne (ev i).ne)
  iv : ∀ i, i < N → ∀ p, p < (ev i).ne → w.cell? ⟨D.gI, D.off i + p, none⟩ = some (.int .i64 (D.id i p : Nat)) ∧ D.id i p < D.H
  hst : ∀ i, i < N → w.cell? ⟨D.A.hst, i, none⟩ = some (.int .i64 (D.hs i : Nat)) ∧ D.hs i < D.H
  own : ∀ i, i < N → w.cell? ⟨D.A.own, i, none⟩ = some (.int .u64 (D.own i : Nat)) ∧ D.own i < 18446744073709551616
  wt : RdW w D.A.wt N D.W
  tw : ∀ i, i < N → w.cell? ⟨D.A.tw, i, none⟩ = some (.int .i64 (D.T i)) ∧ (D.T i = -1 ∨ (0 ≤ D.T i ∧ D.T i < N))
  cnt : ∀ h, h < D.H → w.cell? ⟨D.gC, h, none⟩ = some (.int .i64 (D.cnt h : Nat)) ∧ D.cnt h ≤ N
  fst : IMap 88 kvP D.Ks D.sz D.A.f w
  num : IMap 9 kvS D.L D.H D.A.n w
  klen : D.Ks.length = N
  pair : ∀ i j, i < N → j < N → i ≠ j → D.hs i = D.hs j → D.own i = D.own j → 0 ≤ D.T i
  hsE : ∀ i j, i < N → j < N → (ev i).host = (ev j).host → D.hs i = D.hs j
  ownE : ∀ i, i < N → D.own i = getE (ev i).E (ev i).ne (ev i).host
theorem Idx.below {B evB N C : Nat} {ev : Nat → Ev} {D : IxD} {w w' : World} (h : Idx B evB N C ev D w) (hb : Below B w w') : Idx B evB N C ev D w' := by
  have l := h.lt
  have m := fun b (hb' : b ∈ D.gC :: D.gI :: D.A.list) => hb.block b (l b hb')
  have c := fun (a : Addr) (ha : a.block ∈ D.gC :: D.gI :: D.A.list) => hb.cell (p := a) (l _ ha)
  exact ⟨h.evs.below hb, h.nN, h.nH, (m _ (by simp [Adr.list])).trans h.box, l, fun i hi => (c _ (by simp [Adr.list])).trans (h.ids i hi), fun i hi p hp => ⟨(c _ (by simp)).trans (h.iv i hi p hp).1, (h.iv i hi p hp).2⟩, fun i hi => ⟨(c _ (by simp [Adr.list])).trans (h.hst i hi).1, (h.hst i hi).2⟩, fun i hi => ⟨(c _ (by simp [Adr.list])).trans (h.own i hi).1, (h.own i hi).2⟩, fun i hi => ⟨(c _ (by simp [Adr.list])).trans (h.wt i hi).1, (c _ (by simp [Adr.list])).trans (h.wt i hi).2⟩, fun i hi => ⟨(c _ (by simp [Adr.list])).trans (h.tw i hi).1, (h.tw i hi).2⟩, fun k hk => ⟨(c _ (by simp)).trans (h.cnt k hk).1, (h.cnt k hk).2⟩, h.fst.same (m _ (by simp [Adr.list])), h.num.same (m _ (by simp [Adr.list])), h.klen, h.pair, h.hsE, h.ownE⟩

theorem Laid.keep {evv : Value} {N : Nat} {w : World} {A : Adr} {W W' : World} (h : Laid evv N w A W) (hb : Below W.heap.size W W') : Laid evv N w A W' := by
  have lt : ∀ b ∈ A.list, b < W.heap.size := by
    simp only [Adr.list, List.mem_cons, List.not_mem_nil, or_false]
    rintro b (rfl | rfl | rfl | rfl | rfl | rfl | rfl | rfl)
    · exact blk_lt h.box
    · exact blk_lt h.num
    · exact h.ids.lt
    · exact h.hst.lt
    · exact h.own.lt
    · exact h.wt.lt
    · exact blk_lt h.fst
    · exact h.tw.lt
  have m := fun b (hb' : b ∈ A.list) => hb.block b (lt b hb')
  exact ⟨h.low.trans (hb.mono h.low.size), h.ge, h.nd, (m _ (by simp [Adr.list])).trans h.box, (m _ (by simp [Adr.list])).trans h.num, (m _ (by simp [Adr.list])).trans h.fst, h.ids.same (m _ (by simp [Adr.list])), h.hst.same (m _ (by simp [Adr.list])), h.own.same (m _ (by simp [Adr.list])), h.wt.same (m _ (by simp [Adr.list])), h.tw.same (m _ (by simp [Adr.list]))⟩
theorem Laid.lt {evv : Value} {N : Nat} {w : World} {A : Adr} {W : World} (h : Laid evv N w A W) : ∀ b ∈ A.list, b < W.heap.size := by
  simp only [Adr.list, List.mem_cons, List.not_mem_nil, or_false]
  rintro b (rfl | rfl | rfl | rfl | rfl | rfl | rfl | rfl)
  · exact blk_lt h.box
  · exact blk_lt h.num
  · exact h.ids.lt
  · exact h.hst.lt
  · exact h.own.lt
  · exact h.wt.lt
  · exact blk_lt h.fst
  · exact h.tw.lt
theorem IMap.empty {α : Type} [DecidableEq α] {K : TypeId} {kv : α → Value} {b : Nat} {w : World} (h : w.heap[b]? = some (.map #[] 0)) : IMap K kv [] 0 b w := by
  obtain ⟨D, ⟨es, ck, hb, rest⟩, r2⟩ := IMap.made (K := K) (kv := kv) ({ w with heap := #[] } : World)
  have hb' : ((({ w with heap := #[] } : World)).alloc (.map #[] 0)).heap[(({ w with heap := #[] } : World)).heap.size]? = some (.map #[] 0) := heap_alloc_new _ _
  rw [hb'] at hb
  cases hb
  exact ⟨D, ⟨_, _, h, rest⟩, r2⟩
/-- The start of the main loop. -/
theorem Laid.start {evv : Value} {N M : Nat} {w : World} {A : Adr} {W : World} (h : Laid evv N w A W) : St N w evv A W.heap.size M (fun _ => .slice none 0 0) (fun _ => .int .i64 0) (fun _ => .int .u64 0) (fun _ => .int .u64 0) (fun _ => .int .i64 0) (fun _ => .int .i64 0) [] [] 0 (W.alloc (.cells (mkR M (fun _ => .int .i64 0)) 3)) ∧ AOk w.heap.size A W.heap.size := by
  have k := h.keep ((Below.refl _ W).alloc (Nat.le_refl _) (.cells (mkR M (fun _ => .int .i64 0)) 3))
  refine ⟨⟨k.low, k.box, IMap.empty k.num, IMap.empty k.fst, k.ids, k.hst, k.own, k.wt, k.tw, heap_alloc_new W _⟩, ?_, ?_⟩
  · intro b hb
    rcases List.mem_cons.1 hb with rfl | hb
    · exact h.low.size
    · exact h.ge b hb
  · rw [List.nodup_cons]
    exact ⟨fun hm => Nat.lt_irrefl _ (h.lt _ hm), h.nd⟩

theorem St.fin {N M C evB gI : Nat} {ev : Nat → Ev} {A : Adr} {w wr W2 : World} {fi fh fo fw ft fv fc : Nat → Value} {cn : Nat → Nat} {L : List (List UInt8)} {Ks : List (Nat × Nat)} {sz : Nat} (h : St N w (.slice (some ⟨evB, 0, none⟩) N C) A gI M fi fh fo fw ft fv L Ks sz wr) (p : Pu ev gI N fi fh fo fw ft fv L Ks sz) (ok : AOk w.heap.size A gI) (hE : RdEv w.heap.size w evB N ev) (hN : N ≤ 4098) (hM : M = sumE ev N) (hM2 : M ≤ 1000000)
    (hg : ((wr.setCell ⟨A.x, 8, none⟩ (.slice (some ⟨wr.heap.size, 0, none⟩) L.length L.length)).alloc (.cells (mkR L.length (fun _ => .int .i64 0)) 3)).grownBy W2 (some wr.heap.size)) (hc : Row W2 wr.heap.size L.length 3 fc) (hcn : ∀ k, k < L.length → fc k = .int .i64 (cn k : Nat) ∧ cn k ≤ N) :
    Below w.heap.size w W2 ∧ ∃ D : IxD, D.A = A ∧ Idx W2.heap.size evB N C ev D W2 := by
  obtain ⟨⟨g1, g2, g3, g4, g5, g6, g7, g8⟩, ⟨x1, x2, x3, x4, x5, x6, x7⟩, _⟩ := ok.ne
  have hl := h.lt
  obtain ⟨W6, hW6⟩ : ∃ W6, (wr.setCell ⟨A.x, 8, none⟩ (.slice (some ⟨wr.heap.size, 0, none⟩) L.length L.length)).alloc (.cells (mkR L.length (fun _ => .int .i64 0)) 3) = W6 := ⟨_, rfl⟩
  have s6 : W6.heap.size = wr.heap.size + 1 := by rw [← hW6]; simp [World.setCell]
  have k6 : ∀ b, b < wr.heap.size → b ≠ A.x → W6.heap[b]? = wr.heap[b]? := fun b hb hne => by
    rw [← hW6, Below.heap_alloc _ _ b (by simpa [World.setCell] using hb)]; exact Below.heap_setCell wr _ _ b hne
  have b6 : W6.heap[A.x]? = some (.cells #[.slice (some ⟨evB, 0, none⟩) N C, .map (some A.n), .slice (some ⟨A.ids, 0, none⟩) N N, .slice (some ⟨A.hst, 0, none⟩) N N, .slice (some ⟨A.own, 0, none⟩) N N, .slice (some ⟨A.wt, 0, none⟩) N N, .map (some A.f), .slice (some ⟨A.tw, 0, none⟩) N N, .slice (some ⟨wr.heap.size, 0, none⟩) L.length L.length] 73 (0, 0)) := by
    rw [← hW6]
    exact alloc_blk (set_blk _ _ _ _ _ _ h.box) _
  have low6 : Below w.heap.size w W6 := by rw [← hW6]; exact (h.low.setCell (p := ⟨A.x, 8, none⟩) (ok.ge _ (by simp [Adr.list])) _).alloc (by simpa [World.setCell] using h.low.size) _
  rw [hW6] at hg
  have k2 : ∀ b, b < wr.heap.size → W2.heap[b]? = W6.heap[b]? := fun b hb => hg.block b (by omega) (fun e => by have := Option.some.inj e; omega)
  have kk : ∀ b ∈ gI :: A.list, b ≠ A.x → W2.heap[b]? = wr.heap[b]? := fun b hb hne => (k2 b (hl b hb)).trans (k6 b (hl b hb) hne)
  have low : Below w.heap.size w W2 := low6.grown hg low6.size (fun k e => by cases e; exact h.low.size)
  have hs2 : wr.heap.size < W2.heap.size := by have := hg.size; omega
  have S2 := h.ids.same (kk A.ids (by simp [Adr.list]) (Ne.symm x2))
  have S3 := h.hst.same (kk A.hst (by simp [Adr.list]) (Ne.symm x3))
  have S4 := h.own.same (kk A.own (by simp [Adr.list]) (Ne.symm x4))
  have S5 := h.wt.same (kk A.wt (by simp [Adr.list]) (Ne.symm x5))
  have S7 := h.tw.same (kk A.tw (by simp [Adr.list]) (Ne.symm x7))
  have S8 := h.iv.same (kk gI (by simp) g1)
  obtain ⟨T, hT⟩ := p.tw
  have q0 : ∀ i, ∃ q, i < N → fi i = .slice (some ⟨gI, q, none⟩) (ev i).ne (ev i).ne ∧ ((ev i).ne = 0 ∨ q = sumE ev i) := fun i => by
    by_cases hi : i < N
    · obtain ⟨q, h1⟩ := p.ids i hi; exact ⟨q, fun _ => h1⟩
    · exact ⟨0, fun h => absurd h hi⟩
  have w0 : ∀ i, ∃ q : Nat × Nat, i < N → fw (i * 2) = .int .u64 (q.1 : Nat) ∧ fw (i * 2 + 1) = .int .u64 (q.2 : Nat) := fun i => by
    by_cases hi : i < N
    · obtain ⟨a, b, h1⟩ := p.wt i hi; exact ⟨(a, b), fun _ => h1⟩
    · exact ⟨(0, 0), fun h => absurd h hi⟩
  have hq : ∀ i, i < N → fi i = .slice (some ⟨gI, (q0 i).choose, none⟩) (ev i).ne (ev i).ne ∧ ((ev i).ne = 0 ∨ (q0 i).choose = sumE ev i) := fun i => (q0 i).choose_spec
  have hw : ∀ i, i < N → fw (i * 2) = .int .u64 ((w0 i).choose.1 : Nat) ∧ fw (i * 2 + 1) = .int .u64 ((w0 i).choose.2 : Nat) := fun i => (w0 i).choose_spec
  have hE2 := hE.below low
  have hd2 : RdEv W2.heap.size W2 evB N ev := ⟨Nat.lt_of_lt_of_le hE2.blk low.size, hE2.cell, fun i hi => (hE2.eb i hi).imp id (fun h => Nat.lt_of_lt_of_le h low.size), hE2.ent, hE2.ne, hE2.hs, hE2.es⟩
  refine ⟨low, ⟨A, gI, wr.heap.size, L.length, fun i => (q0 i).choose, fun i p => ix L ((ev i).E p).1.data.toList, fun i => ix L (ev i).host.data.toList, fun i => getE (ev i).E (ev i).ne (ev i).host, fun i => (w0 i).choose, T, cn, Ks, sz, L⟩, rfl, hd2, hN, ?_, (k2 _ (hl _ (by simp [Adr.list]))).trans b6, ?_, ?_, ?_, ?_, ?_, ?_, ?_, ?_, ?_, ?_, p.klen, ?_, ?_, ?_⟩
  · have := p.len; simp only; omega
  · intro b hb
    rcases List.mem_cons.1 hb with rfl | hb
    · exact hs2
    · have := hl b hb; omega
  · intro i hi; rw [S2.cell i hi, (hq i hi).1]
  · intro i hi p' hp
    obtain ⟨m1, m2⟩ := p.iv i hi p' hp
    have e := (hq i hi).2
    have : sumE ev i + p' < M := by have := sumE_mono ev (show i + 1 ≤ N by omega); simp only [sumE] at this; omega
    have e2 : (q0 i).choose = sumE ev i := by rcases e with e | e <;> omega
    refine ⟨?_, ix_lt m1⟩
    simp only
    rw [e2, S8.cell _ this, m2]
  · intro i hi
    obtain ⟨m1, m2⟩ := p.hst i hi
    exact ⟨by rw [S3.cell i hi, m2], ix_lt m1⟩
  · intro i hi
    refine ⟨by rw [S4.cell i hi, p.own i hi], ?_⟩
    simp only
    unfold getE
    split
    · rename_i hf
      unfold found at hf
      simp at hf
      exact (hE.es i hi _ hf.1).2
    · omega
  · intro i hi
    exact ⟨by rw [S5.cell _ (by omega), (hw i hi).1], by rw [S5.cell _ (by omega), (hw i hi).2]⟩
  · intro i hi
    exact ⟨by rw [S7.cell i hi, hT.cell i hi], hT.rng i hi⟩
  · intro k hk
    exact ⟨by rw [hc.cell k hk, (hcn k hk).1], (hcn k hk).2⟩
  · exact h.fst.same (kk A.f (by simp [Adr.list]) (Ne.symm x6))
  · exact h.num.same (kk A.n (by simp [Adr.list]) (Ne.symm x1))
  · intro i j hi hj hne e1 e2
    exact hT.pair i j hi hj hne (by rw [p.ks i hi, p.ks j hj]; simp only at e1 e2; rw [e1, e2])
  · intro i j hi hj e; simp only; rw [e]
  · intro i hi; rfl

set_option maxRecDepth 20000 in
set_option maxHeartbeats 16000000 in
theorem index_any (evB N C : Nat) (ev : Nat → Ev) (w : World) (hE : RdEv w.heap.size w evB N ev) (hN : N ≤ 4098) (hM : sumE ev N ≤ 1000000) :
    Calls Tryf.prog 16 #[.slice (some ⟨evB, 0, none⟩) N C] w fun e w' => Below w.heap.size w w' ∧ ∃ D, e = .returned (.pointer (some ⟨D.A.x, 0, none⟩)) ∧ Idx w'.heap.size evB N C ev D w' := by
  have HE : Hid (RdEv w.heap.size w evB N ev) := hE
  clear hE
  go_enter Tryf.func16, Tryf.ntmps16
  go_wp2_with fail
  refine mk_any evB N C hN w _ _ ?_
  intro X A W hX hL
  have HL : Hid (Laid (.slice (some ⟨evB, 0, none⟩) N C) N w A W) := hL
  clear hL
  rename_i Kk ak
  refine ak _ _ ?_
  clear ak
  unfold frm
  rw [hX]
  clear hX
  generalize X 0 = x0
  generalize X 1 = x1
  generalize X 2 = x2
  generalize X 3 = x3
  generalize X 4 = x4
  generalize X 5 = x5
  generalize X 6 = x6
  generalize X 7 = x7
  generalize X 8 = x8
  generalize X 9 = x9
  generalize X 10 = x10
  generalize X 11 = x11
  generalize X 12 = x12
  generalize X 13 = x13
  generalize X 14 = x14
  generalize X 15 = x15
  generalize X 16 = x16
  generalize X 17 = x17
  generalize X 18 = x18
  generalize X 19 = x19
  generalize X 20 = x20
  generalize X 21 = x21
  clear X
  go_wp2_with fail
  go_loopg [42, 4] N (fun k s42 s4 wr => ∃ i : Nat, s42 = .int .i64 (i : Int) ∧ s4 = .int .i64 (sumE ev i : Nat) ∧ i ≤ N ∧ N - i ≤ k ∧ Hid (Below W.heap.size W wr))
  case atStart => exact ⟨0, rfl, rfl, by omega, by omega, Below.refl _ _⟩
  case round =>
    obtain ⟨i, rfl, rfl, h1, h2, hB⟩ := hrel
    by_cases hlt : i < N
    · obtain ⟨c0, c1, c2, c3, c4, c5⟩ := (HE.out.below (HL.out.low.trans (hB.out.mono HL.out.low.size))).six i hlt
      have hle : sumE ev i + (ev i).ne ≤ 1000000 := by
        have := sumE_mono ev (show i + 1 ≤ N by omega)
        simp only [sumE] at this
        omega
      have i1 : (i : Int) < (N : Int) := by omega
      go_wp2
      go_roundg (N - (i + 1))
      case measure => omega
      case rel => exact ⟨i + 1, by rw [show (i : Int) + 1 = ((i + 1 : Nat) : Int) by omega], by simp only [sumE]; rw [Int.natCast_add], by omega, Nat.le_refl _, hB.out.alloc hB.out.size _⟩
    · obtain rfl : i = N := by omega
      have hmk := make1 Tryf.underlying45 i3 rfl (by omega) (sumE ev i) (by omega) wr
      have L2 : Hid (Laid (.slice (some ⟨evB, 0, none⟩) i C) i w A wr) := HL.out.keep hB.out
      clear HL hB
      go_wp2_with fail
      obtain ⟨M, hMM⟩ : ∃ M, sumE ev i = M := ⟨_, rfl⟩
      obtain ⟨gI, hgI⟩ : ∃ g, wr.heap.size = g := ⟨_, rfl⟩
      obtain ⟨W5, hW5⟩ : ∃ W5, wr.alloc (Obj.cells (mkR (sumE ev i) fun x => Value.int IntKind.i64 0) 3) = W5 := ⟨_, rfl⟩
      have S5 : Hid (St i w (.slice (some ⟨evB, 0, none⟩) i C) A gI M (fun _ => .slice none 0 0) (fun _ => .int .i64 0) (fun _ => .int .u64 0) (fun _ => .int .u64 0) (fun _ => .int .i64 0) (fun _ => .int .i64 0) [] [] 0 W5 ∧ AOk w.heap.size A gI) := by
        have := L2.out.start (M := sumE ev i)
        rw [hW5, hgI, hMM] at this
        exact this
      rw [hW5, hgI, hMM]
      rw [hMM] at hM
      have HMM : Hid (sumE ev i = M) := hMM
      clear hW5 hgI hMM L2 hmk
      go_loopg [57, 7] i (fun k s57 s7 W' => ∃ (m q : Nat) (fi fh fo fw ft fv : Nat → Value) (L : List (List UInt8)) (Ks : List (Nat × Nat)) (sz : Nat), s57 = .int .i64 (m : Int) ∧ s7 = .slice (some ⟨gI, q, none⟩) (M - sumE ev m) (M - sumE ev m) ∧ m ≤ i ∧ i - m ≤ k ∧ Hid (St i w (.slice (some ⟨evB, 0, none⟩) i C) A gI M fi fh fo fw ft fv L Ks sz W' ∧ Pu ev gI m fi fh fo fw ft fv L Ks sz ∧ (M - sumE ev m = 0 ∨ q = sumE ev m) ∧ q ≤ M))
      case atStart =>
        refine ⟨0, 0, _, _, _, _, _, _, [], [], 0, rfl, rfl, by omega, by omega, S5.out.1, ?_, .inr rfl, by omega⟩
        exact ⟨fun j hj => absurd hj (Nat.not_lt_zero _), fun j hj => absurd hj (Nat.not_lt_zero _), fun j hj => absurd hj (Nat.not_lt_zero _), fun j hj => absurd hj (Nat.not_lt_zero _), fun j hj => absurd hj (Nat.not_lt_zero _), rfl, fun j hj => absurd hj (Nat.not_lt_zero _), Nat.le_refl _, ⟨fun _ => 0, fun j hj => absurd hj (Nat.not_lt_zero _), fun j hj => absurd hj (Nat.not_lt_zero _), fun j _ hj => absurd hj (Nat.not_lt_zero _)⟩, by simp⟩
      case round =>
        obtain ⟨m, q, fi, fh, fo, fw, ft, fv, L, Ks, sz, rfl, rfl, g1, g2, hR⟩ := hrel
        by_cases hlt2 : m < i
        · have i1 : (m : Int) < (i : Int) := by omega
          go_upto_region 11 with fail
          refine rnd_any i M gI m evB C q ev A w S5.out.2 HE.out hlt2 hN HMM.out.symm hM fi fh fo fw ft fv L Ks sz _ _ hR.out.1 hR.out.2.1 hR.out.2.2.1 hR.out.2.2.2 (by assumption) ?_
          intro y0 y1 y2 y3 y4 y5 y6 y7 y8 y9 y10 y11 y12 y13 y14 y15 y16 y17 y18 y19 y20 y21 y22 y23 y24 y25 y26 y27 y28 y29 y30 y31 y32 y33 y34 y35 y36 y37 y38 y39 y40 y41 y42 y43 y44 y45 y46 y47 y48 y49 y50 y51 y52 y53 y54 y55 y56 y57 y58 y59 y60 y61 y62 y63 y64 y65 y66 y67 y68 y69 y70 y71 y72 y73 y74 y75 y76 y77 y78 y79 y80 y81 y82 y83 y84 y85 y86 y87 y88 y89 y90 y91 y92 y93 y94 y95 y96 y97 y98 y99 y100 y101 y102 y103 y104 y105 y106 y107 y108 y109 y110 y111 y112 y113 y114 y115 y116 y117 y118 y119 y120 y121 y122 y123 y124 y125 y126 y127 y128 y129 y130 y131 y132 y133 y134 y135 y136 y137 y138 y139 fi fh fo fw ft fv L Ks sz q' W' hh
          go_wp2_with fail
          go_roundg (i - (m + 1))
          case measure => omega
          case rel => exact ⟨m + 1, q', fi, fh, fo, fw, ft, fv, L, Ks, sz, by rw [show (m : Int) + 1 = ((m + 1 : Nat) : Int) by omega], rfl, by omega, Nat.le_refl _, hh⟩
        · obtain rfl : m = i := by omega
          have c1 : wr.cell? ⟨A.x, 1, none⟩ = some (.map (some A.n)) := cell_blk hR.out.1.box 1
          have c3 : wr.cell? ⟨A.x, 3, none⟩ = some (.slice (some ⟨A.hst, 0, none⟩) m m) := cell_blk hR.out.1.box 3
          have c8 : wr.cell? ⟨A.x, 8, none⟩ = some (.slice none 0 0) := cell_blk hR.out.1.box 8
          have f8 := free_blk hR.out.1.box 8
          have hlen := hR.out.1.num.len Tryf.underlying68 3
          have hL2 : L.length ≤ 1048577 := by have := hR.out.2.1.len; rw [HMM.out] at this; omega
          have hmk := make1 Tryf.underlying45 i3 rfl (by omega) L.length hL2 wr
          have hax : A.x < wr.heap.size := blk_lt hR.out.1.box
          go_wp2_with fail
          obtain ⟨W6, hW6⟩ : ∃ W6, (wr.setCell ⟨A.x, 8, none⟩ (.slice (some ⟨wr.heap.size, 0, none⟩) L.length L.length)).alloc (.cells (mkR L.length (fun _ => .int .i64 0)) 3) = W6 := ⟨_, rfl⟩
          have HF : Hid (∀ (W2 : World) (fc : Nat → Value) (cn : Nat → Nat), W6.grownBy W2 (some wr.heap.size) → Row W2 wr.heap.size L.length 3 fc → (∀ k, k < L.length → fc k = .int .i64 (cn k : Nat) ∧ cn k ≤ m) → Below w.heap.size w W2 ∧ ∃ D : IxD, D.A = A ∧ Idx W2.heap.size evB m C ev D W2) := fun W2 fc cn h1 h2 h3 => by
            rw [← hW6] at h1
            exact hR.out.1.fin hR.out.2.1 S5.out.2 HE.out hN HMM.out.symm hM h1 h2 h3
          have hgC : Hid (∀ W2 : World, W6.grownBy W2 (some wr.heap.size) → W2.cell? ⟨A.x, 8, none⟩ = some (.slice (some ⟨wr.heap.size, 0, none⟩) L.length L.length) ∧ ∀ j, j < m → W2.cell? ⟨A.hst, j, none⟩ = some (.int .i64 (ix L (ev j).host.data.toList : Nat)) ∧ ix L (ev j).host.data.toList < L.length) := fun W2 hg => by
            have z6 : W6.heap.size = wr.heap.size + 1 := by rw [← hW6]; simp [World.setCell]
            have far : ∀ b, b < wr.heap.size → W2.heap[b]? = W6.heap[b]? := fun b hb => hg.block b (by omega) (fun e => by have := Option.some.inj e; omega)
            obtain ⟨cc, hb1, hc8⟩ : ∃ cc, W6.heap[A.x]? = some (.cells cc 73 (0, 0)) ∧ cc[8]? = some (.slice (some ⟨wr.heap.size, 0, none⟩) L.length L.length) := ⟨_, by rw [← hW6]; exact alloc_blk (set_blk _ _ _ _ _ _ hR.out.1.box) _, rfl⟩
            have hb2 : W2.heap[A.x]? = some (.cells cc 73 (0, 0)) := (far _ hax).trans hb1
            have hxh : A.hst ≠ A.x := Ne.symm S5.out.2.ne.2.1.2.2.1
            have hr6 : Row W6 A.hst m 3 fh := by rw [← hW6]; exact (hR.out.1.hst.other _ hxh).alloc _
            have hr2 : Row W2 A.hst m 3 fh := (far _ hR.out.1.hst.lt).trans hr6
            refine ⟨(cell_blk hb2 8).trans hc8, fun j hj => ?_⟩
            obtain ⟨m1, m2⟩ := hR.out.2.1.hst j hj
            exact ⟨by rw [hr2.cell j hj, m2], ix_lt m1⟩
          have hr0 : Hid (Row W6 wr.heap.size L.length 3 (fun _ => .int .i64 0)) := by
            rw [← hW6]
            have := heap_alloc_new (wr.setCell ⟨A.x, 8, none⟩ (.slice (some ⟨wr.heap.size, 0, none⟩) L.length L.length)) (.cells (mkR L.length (fun _ => .int .i64 0)) 3)
            rw [show (wr.setCell ⟨A.x, 8, none⟩ (.slice (some ⟨wr.heap.size, 0, none⟩) L.length L.length)).heap.size = wr.heap.size by simp [World.setCell]] at this
            exact this
          rw [hW6]
          clear hW6 c1 c3 c8 f8 hlen hmk hax hR
          obtain ⟨gC, hgc⟩ : ∃ g, wr.heap.size = g := ⟨_, rfl⟩
          rw [hgc] at HF hgC hr0
          clear hgc
          obtain ⟨H, hH⟩ : ∃ g, L.length = g := ⟨_, rfl⟩
          rw [hH] at HF hgC hr0 hL2
          clear hH
          go_loopg [206] m (fun k s206 W2 => ∃ (j : Nat) (fc : Nat → Value) (cn : Nat → Nat), s206 = .int .i64 (j : Int) ∧ j ≤ m ∧ m - j ≤ k ∧ Hid (W6.grownBy W2 (some gC) ∧ Row W2 gC H 3 fc ∧ ∀ k, k < H → fc k = .int .i64 (cn k : Nat) ∧ cn k ≤ j))
          case atStart => exact ⟨0, _, fun _ => 0, rfl, by omega, by omega, grownBy_refl _ _, hr0.out, fun k _ => ⟨rfl, Nat.le_refl _⟩⟩
          case round =>
            obtain ⟨j, fc, cn, rfl, g3, g4, hQ⟩ := hrel
            by_cases hlt3 : j < m
            · obtain ⟨c8, hh⟩ := hgC.out _ hQ.out.1
              obtain ⟨c3, hi⟩ := hh j hlt3
              clear hh
              generalize ix L (ev j).host.data.toList = h at c3 hi
              have d1 := hQ.out.2.1.cell h hi
              have f1 := hQ.out.2.1.free h
              rw [(hQ.out.2.2 h hi).1] at d1
              have hcn := (hQ.out.2.2 h hi).2
              have i1 : (h : Int) < (H : Int) := by omega
              have i2 : (j : Int) < (m : Int) := by omega
              go_wp2
              go_roundg (m - (j + 1))
              case measure => omega
              case rel =>
                refine ⟨j + 1, upd fc h (.int .i64 ((cn h + 1 : Nat) : Int)), fun k => if k = h then cn h + 1 else cn k, by rw [show (j : Int) + 1 = ((j + 1 : Nat) : Int) by omega], by omega, Nat.le_refl _, ?_, ?_, fun k hk => ?_⟩
                · have hg := hQ.out.1
                  refine ⟨hg.os, hg.tape, hg.output, by have := hg.size; simpa [World.setCell] using this, fun b hb hne => ?_⟩
                  rw [Below.heap_setCell _ _ _ _ (fun e => hne (by rw [e]))]
                  exact hg.block b hb hne
                · have := hQ.out.2.1.set h (.int .i64 ((cn h + 1 : Nat) : Int))
                  rwa [Int.natCast_add] at this
                · by_cases hkh : k = h
                  · subst hkh; rw [upd_same]; simp; omega
                  · rw [upd_other _ _ _ _ hkh]; simp only [hkh, if_false]
                    have := hQ.out.2.2 k hk
                    exact ⟨this.1, by omega⟩
            · obtain rfl : j = m := by omega
              go_wp2_with fail
              go_ret
              obtain ⟨hb, D, hD, hI⟩ := HF.out _ fc cn hQ.out.1 hQ.out.2.1 hQ.out.2.2
              exact ⟨hb, D, by rw [hD]; rfl, hI⟩
end Go.Proofs.Qxb6613595aFmt
