import Derived.Test.Qxb6613595aFmtOrAps
namespace Go.Proofs.Qxb6613595aFmt
open Go.RowKit Go.Maps Go.Shelf
attribute [local go_sem] Oper.semAt_some
set_option linter.unusedVariables false

set_option maxRecDepth 20000 in
set_option maxHeartbeats 8000000 in
theorem appendSeq_any (B evB N C bx bi i c0 : Nat) (q0 : Option Addr) (ev : Nat → Ev) (D : IxD) (hi : i < N) (w : World) (hI : Idx B evB N C ev D w) (hB : B ≤ w.heap.size) (h1 : w.heap[bx]? = some (.cells #[.pointer (some ⟨D.A.x, 0, none⟩)] 44 (0, 0))) (h2 : w.heap[bi]? = some (.cells #[.int .i64 (i : Int)] 3 (0, 0)))
    (hs : w.ownsRow B 52 2 (.slice q0 0 c0) 0 []) :
    Calls Tryf.prog 39 #[.slice q0 0 c0, .func (.func 24) #[] #[.pointer (some ⟨bx, 0, none⟩), .pointer (some ⟨bi, 0, none⟩)]] w fun e w' => ∃ v : Value, e = .returned v ∧ Hid (∃ xs : List (NE D.H N), xs.length ≤ 1048577 ∧ w'.ownsRow B 52 2 v xs.length (flatN xs) ∧ FrA (Value.ownBlock (.slice q0 0 c0)) w w') := by
  obtain ⟨clo, hclo⟩ : ∃ clo, Value.func (.func 24) #[] #[.pointer (some ⟨bx, 0, none⟩), .pointer (some ⟨bi, 0, none⟩)] = clo := ⟨_, rfl⟩
  rw [hclo]
  refine (callsIn_wide (n := 10)).1 ?_
  refine callsIn_of_wp_marks Tryf.func39 rfl trivial ?_ rfl
  refine wpIn_wide.2 ?_
  simp only [Tryf.ntmps39, List.size_toArray, List.length_cons, List.length_nil, Nat.reduceAdd, Nat.reduceSub, Array.replicate_succ, Array.replicate_zero, List.push_toArray, List.append_toArray, List.nil_append, List.cons_append]
  have HA : Hid _ := And.intro hI (And.intro hB (And.intro h1 (And.intro h2 hs)))
  clear hI hB h1 h2 hs
  go_wp2_with fail
  obtain ⟨hI, hB, h1, h2, hs⟩ := HA.out
  clear HA
  obtain ⟨w1, hw1⟩ : ∃ w1, w.alloc (Obj.cells #[Value.slice q0 0 c0] 102) = w1 := ⟨_, rfl⟩
  rw [hw1]
  have z1 : w1.heap.size = w.heap.size + 1 := by rw [← hw1]; simp
  have b1 : Below w.heap.size w w1 := by rw [← hw1]; exact (Below.refl _ w).alloc (Nat.le_refl _) _
  have c1 : w1.heap[w.heap.size]? = some (.cells #[.slice q0 0 c0] 102 (0, 0)) := by rw [← hw1]; exact heap_alloc_new w _
  have hs1 : w1.ownsRow B 52 2 (.slice q0 0 c0) 0 [] := by rw [← hw1]; exact hs.alloc _
  clear hw1
  refine (wpIn_wide (n := 10)).1 ?_
  refine wpIn_rangeFunc ?_
  intro fn _
  obtain ⟨W0, hW0⟩ : ∃ W0, (w1.alloc (.deferred (some []))).alloc (.loop ((rec39 Tryf.f39) fn (.slice q0 0 c0) clo w.heap.size w1.heap.size)) = W0 := ⟨_, rfl⟩
  refine ⟨w1.heap.size + 1, [{ target := .collected w1.heap.size, args := #[] }], W0, { target := .fn (.func 24) #[.pointer (some ⟨bx, 0, none⟩), .pointer (some ⟨bi, 0, none⟩)], args := #[.func (.yield (w1.heap.size + 1)) #[] #[]] }, W0, 24, #[.func (.yield (w1.heap.size + 1)) #[] #[], .pointer (some ⟨bx, 0, none⟩), .pointer (some ⟨bi, 0, none⟩)], W0, ?_, ?_, fun _ _ => trivial, ?_, fun h => (by cases h), ?_⟩
  · rw [← hW0]; exact run_enterLoop_outer _ _ _ _ _
  · rw [← hclo]; simp [resolve, go_sem]
  · have eg : ∀ args w, (callFunc 24 args).run Tryf.prog w = .ok (.enter 24 args) w := enters_of Tryf.func24 (by kernel_rfl) rfl
    simp [invoke, go_sem, eg]
  · have b0 : Below w1.heap.size w1 W0 := by rw [← hW0]; exact ((Below.refl _ w1).alloc (Nat.le_refl _) _).alloc (by simp) _
    have z0 : W0.heap.size = w.heap.size + 3 := by rw [← hW0]; simp [z1]
    have l0 : W0.heap[w1.heap.size + 1]? = some (.loop ((rec39 Tryf.f39) fn (.slice q0 0 c0) clo w.heap.size w1.heap.size)) := by
      rw [← hW0]
      have := heap_alloc_new (w1.alloc (.deferred (some []))) (.loop ((rec39 Tryf.f39) fn (.slice q0 0 c0) clo w.heap.size w1.heap.size))
      rwa [World.size_alloc] at this
    have d0 : W0.heap[w1.heap.size]? = some (.deferred (some [])) := by rw [← hW0]; exact alloc_blk (heap_alloc_new w1 _) _
    have bw : Below w.heap.size w W0 := b1.trans (b0.mono (by omega))
    have hob : ∀ b, Value.ownBlock (.slice q0 0 c0) = some b → b < w.heap.size ∧ b ≠ bx := fun b hb => by
      obtain ⟨_, c, hc⟩ := own_tag hs hb
      exact ⟨blk_lt hc, fun e => by rw [e, h1] at hc; cases hc⟩
    have hJ0 : JA (H := D.H) (N := N) B w.heap.size (w1.heap.size + 1) w1.heap.size W0.heap.size ((rec39 Tryf.f39) fn (.slice q0 0 c0) clo w.heap.size w1.heap.size) (.slice q0 0 c0) w 0 [] W0 :=
      ⟨⟨_, (b0.block _ (by omega)).trans c1, own_keep hs1 (fun b c _ hc _ => (b0.block b (blk_lt hc)).trans hc), .inl rfl, fun _ => rfl⟩, l0, d0, ⟨bw.os, bw.tape, bw.output, bw.size, fun b hb _ => bw.block b hb⟩, Nat.le_refl _, by simp⟩
    refine (named1_in 9 8 (w1.heap.size + 1) B evB N C bx bi i ev D (by omega) hi W0 (hI.below (bw.mono hB)) (by omega) ((bw.block bx (blk_lt h1)).trans h1) ((bw.block bi (blk_lt h2)).trans h2) (by omega)
      (fun M => JA (H := D.H) (N := N) B w.heap.size (w1.heap.size + 1) w1.heap.size W0.heap.size ((rec39 Tryf.f39) fn (.slice q0 0 c0) clo w.heap.size w1.heap.size) (.slice q0 0 c0) w M)
      (fun M => JA.own M (by omega) (by omega) (by omega) (by omega)) (fun M W' h => h.up M)
      (fun M pre x W1 hM hp hJ => aps_yield 8 B w.heap.size (w1.heap.size + 1) w1.heap.size W0.heap.size bx M fn (.slice q0 0 c0) clo w hB (by omega) (by omega) (by omega) (by omega) (by omega) (by omega) (by omega) (Nat.le_refl _) (by omega) (by omega) hB (blk_lt h1) (fun e => (hob bx e.symm).2 rfl) (fun b hb => (hob b hb).1) pre x W1 hM hp hJ) hJ0).mono ?_
    rintro e W2 ⟨⟨v, rfl⟩, M, xs, hJ⟩
    obtain ⟨⟨vv, j1, j2, j3, j4⟩, j5, j6, j7, j8, j9⟩ := hJ
    refine ⟨none, _, run_endLoop j5 (by simp [rec39]), ?_⟩
    obtain ⟨q, cc, rfl⟩ := own_shape j2
    obtain ⟨W3, hW3⟩ : ∃ W3, W2.putObj (w1.heap.size + 1) (.loop { (rec39 Tryf.f39) fn (.slice q0 0 c0) clo w.heap.size w1.heap.size with state := .exhausted }) = W3 := ⟨_, rfl⟩
    have g1 : ∀ k, k ≠ w1.heap.size + 1 → W3.heap[k]? = W2.heap[k]? := fun k hk => by rw [← hW3]; exact put_other hk
    have m1 : W3.cell? ⟨w.heap.size, 0, none⟩ = some (.slice q xs.length cc) := cell_blk ((g1 _ (by omega)).trans j1) 0
    have m2 : W3.heap[w1.heap.size]? = some (.deferred (some [])) := (g1 _ (by omega)).trans j6
    rw [hW3]
    have HF : Hid _ := And.intro j1 (And.intro j2 (And.intro j5 (And.intro j6 (And.intro j7 (And.intro g1 hW3)))))
    have Z1 : Hid _ := z1
    clear z1 z0 hI hB h1 h2 hs hs1 hJ0 hob l0 d0 b0 bw b1 c1 j1 j2 j3 j4 j5 j6 j7 g1 hW3 hW0
    show Exit.inBlock 0 _ .normal { tmps := #[Value.slice q0 0 c0, clo, Value.pointer (some ⟨w.heap.size, 0, none⟩), undef, Value.slice none 0 0, undef, clo, undef, undef, undef, undef, undef, undef], defers := [{ target := Target.collected w1.heap.size, args := #[] }] } W3
    go_wp2_with fail
    refine ⟨by simp, .inl ⟨_, _, rfl, run_takeDeferred m2, ?_⟩⟩
    obtain ⟨j1, j2, j5, j6, j7, g1, hW3⟩ := HF.out
    have z1 := Z1.out
    have p1 : ∀ k, k ≠ w1.heap.size → (W3.putObj w1.heap.size (.deferred none)).heap[k]? = W3.heap[k]? := fun k hk => put_other hk
    refine ⟨_, results_tmp rfl _ _ _, _, rfl, xs, j9, own_keep j2 fun b c hb hc ho => ?_, ?_⟩
    · refine (p1 b (fun e => by rw [e, j6] at hc; cases hc)).trans ((g1 b (fun e => by rw [e, j5] at hc; cases hc)).trans hc)
    · refine ⟨?_, ?_, ?_, ?_, fun b hb hne => (p1 b (by omega)).trans ((g1 b (by omega)).trans (j7.blk b hb hne))⟩
      · rw [← hW3]; exact j7.os
      · rw [← hW3]; exact j7.tape
      · rw [← hW3]; exact j7.output
      · have := j7.size; rw [← hW3]; simpa using this
end Go.Proofs.Qxb6613595aFmt
