import Derived.Test.Qxb6613595aObsNew
import Derived.Laws.CopyOwn
namespace Go.Proofs.Qxb6613595a
open Go.RowKit Go.MuLone

theorem setRow_new (w : World) (c c' : Array Value) (E : TypeId) : (w.alloc (.cells c E)).setRow w.heap.size c' = w.alloc (.cells c' E) := by
  unfold World.setRow World.alloc
  congr 1
  apply Array.ext
  · simp
  · intro i h1 h2
    simp only [Array.getElem_modify, Array.getElem_push]
    by_cases e : w.heap.size = i
    · subst e; simp
    · rw [if_neg e]
      have hi : i < w.heap.size := by simp at h2; omega
      rw [dif_pos hi, dif_pos hi]

theorem copy26 (w : World) (n b o cap : Nat) (f : Nat → Int) (hb : b < w.heap.size) (hc : ∀ i, i < n → w.cell? ⟨b, o + i, none⟩ = some (.int .i64 (f i))) (ty : TypeId) :
    Sem.run Try.prog (Builtin.copy_ #[26, 26] ty #[.slice (some ⟨w.heap.size, 0, none⟩) n n, .slice (some ⟨b, o, none⟩) n cap]) (w.alloc (.cells (row n (fun _ => 0)) 2)) = .ok (.int .i64 n) (w.alloc (.cells (row n f) 2)) := by
  have hsz : (row n f).toList.length = n := by simp [row]
  have hsz0 : (row n (fun _ => 0)).size = n := by simp [row]
  have h := run_copy_row (P := Try.prog) (w.alloc (.cells (row n (fun _ => 0)) 2)) 26 26 ty 2 w.heap.size 0 n n ⟨b, o, none⟩ n cap (row n (fun _ => 0)) 2 (row n f).toList Try.underlying26 (by kernel_rfl)
    (by show (w.heap.push _)[w.heap.size]? = _; simp) (by rw [hsz]; simp)
    (fun i v hi => by
      have hin : i < n := by
        by_cases h : i < n
        · exact h
        · rw [List.getElem?_eq_none (by omega)] at hi; cases hi
      have hv : v = .int .i64 (f i) := by
        rw [Array.getElem?_toList, row_get n f i hin] at hi
        exact (Option.some.inj hi).symm
      rw [hv]
      show (w.alloc _).cell? (Addr.add ⟨b, o, none⟩ i) = _
      have : Addr.add ⟨b, o, none⟩ i = ⟨b, o + i, none⟩ := by simp [Addr.add]
      rw [this, World.cell?_alloc_lt _ _ _ (by simpa using hb)]
      exact hc i hin)
    (by rw [hsz, hsz0]; omega) (fun v hv => by simp [row] at hv; obtain ⟨i, _, rfl⟩ := hv; rfl)
  rw [h, hsz]
  have e : (List.take 0 (row n fun _ => 0).toList ++ (row n f).toList ++ List.drop (0 + n) (row n fun _ => 0).toList).toArray = row n f := by
    rw [List.take_zero, List.nil_append, List.drop_of_length_le (by simp [row]), List.append_nil]
  rw [e]
  show Result.ok (goInt n) (World.setRow (w.alloc (.cells (row n fun _ => 0) 2)) w.heap.size (row n f)) = _
  rw [setRow_new]
  rfl

theorem rdg_idem (t d l : Int) : rdg t d (rdg t d l) = rdg t d l := by
  unfold rdg
  by_cases h : l < lat t d
  · rw [if_pos h, if_neg (by omega)]
  · rw [if_neg h, if_neg h]
theorem want_idem (sr of cl : Nat → Int) : want sr of (want sr of cl) = want sr of cl := by funext i; exact rdg_idem _ _ _
theorem eps_idem (now period eps : Int) (n : Nat) (f : Nat → Int) : epsV now period (epsV now period eps n f) n f = epsV now period eps n f := by
  unfold epsV
  by_cases h : now < 2 * period
  · simp only [h, if_true]
  · simp only [h, if_false]
    by_cases h2 : eps < hi f (n - 1) - lo f (n - 1)
    · rw [if_pos h2, if_neg (by omega)]
    · rw [if_neg h2, if_neg h2]

theorem St.below {w w' : World} {B n M : Nat} {now period eps back : Int} {sr of cl la re : Nat → Int} (h : St w B n now period eps back sr of cl la re) (hb : Below M w w') (hM : B + 4 + 2 * n ≤ M) (h0 : 0 < n) : St w' B n now period eps back sr of cl la re :=
  ⟨by rw [hb.block _ (by omega)]; exact h.sim, by rw [hb.block _ (by omega)]; exact h.ptr, by rw [hb.block _ (by omega)]; exact h.last, by rw [hb.block _ (by omega)]; exact h.reads, fun i hi => by rw [hb.block _ (by omega)]; exact h.var i hi, fun i hi => by rw [hb.block _ (by omega)]; exact h.clk i hi⟩

theorem four_rows (w : World) (a b c d : Obj) : Below w.heap.size w ((((w.alloc a).alloc b).alloc c).alloc d) ∧ ((((w.alloc a).alloc b).alloc c).alloc d).heap.size = w.heap.size + 4 ∧
    ((((w.alloc a).alloc b).alloc c).alloc d).heap[w.heap.size]? = some a ∧ ((((w.alloc a).alloc b).alloc c).alloc d).heap[w.heap.size + 1]? = some b ∧
    ((((w.alloc a).alloc b).alloc c).alloc d).heap[w.heap.size + 1 + 1]? = some c ∧ ((((w.alloc a).alloc b).alloc c).alloc d).heap[w.heap.size + 1 + 1 + 1]? = some d := by
  refine ⟨?_, by simp, ?_, ?_, ?_, ?_⟩
  · exact ((((Below.refl _ _).alloc (Nat.le_refl _) _).alloc (by simp) _).alloc (by simp; omega) _).alloc (by simp; omega) _
  · show ((((w.heap.push _).push _).push _).push _)[w.heap.size]? = _
    rw [push_get _ _ _ (by simp; omega), push_get _ _ _ (by simp; omega), push_get _ _ _ (by simp), push_new _ _ _ rfl]
  · show ((((w.heap.push _).push _).push _).push _)[w.heap.size + 1]? = _
    rw [push_get _ _ _ (by simp), push_get _ _ _ (by simp), push_new _ _ _ (by simp)]
  · show ((((w.heap.push _).push _).push _).push _)[w.heap.size + 2]? = _
    rw [push_get _ _ _ (by simp), push_new _ _ _ (by simp)]
  · show ((((w.heap.push _).push _).push _).push _)[w.heap.size + 3]? = _
    rw [push_new _ _ _ (by simp)]
theorem row_cells {w : World} {b n : Nat} {E : TypeId} {f : Nat → Int} (h : w.heap[b]? = some (.cells (row n f) E (0, 0))) : ∀ i, i < n → w.cell? ⟨b, i, none⟩ = some (.int .i64 (f i)) := fun i hi => (cell_blk h i).trans (row_get n f i hi)

/-- Behind one 'ZZobserve': a row that lay outside the simulation lies there still; the old memory is as it was. -/
theorem obs_keeps {w2 w2' w3 : World} {B n N : Nat} {g : Nat → Int} (ho : Out B (B + 4 + 2 * n) w2 w2') (hm : Mk w2.heap.size n w2' w3 g) :
    (∀ k, k < w2.heap.size → ¬ (B ≤ k ∧ k < B + 4 + 2 * n) → w3.heap[k]? = w2.heap[k]?) ∧ (N ≤ B → N ≤ w2.heap.size → Below N w2 w3) :=
  ⟨fun k hk h => (hm.below.block k hk).trans (ho.block k h), fun h1 h2 => (ho.below h1).trans (hm.below.mono h2)⟩

set_option maxRecDepth 20000 in
set_option maxHeartbeats 4000000 in
theorem twice_rows (now period eps back : Int) (n b4 o4 c4 b5 o5 c5 b6 o6 c6 b7 o7 c7 : Nat) (f4 f5 f6 f7 : Nat → Int) (w : World) (hn0 : 0 < n) (hn : n ≤ 4096)
    (h4 : b4 < w.heap.size) (h5 : b5 < w.heap.size) (h6 : b6 < w.heap.size) (h7 : b7 < w.heap.size)
    (r4 : ∀ i, i < n → w.cell? ⟨b4, o4 + i, none⟩ = some (.int .i64 (f4 i))) (r5 : ∀ i, i < n → w.cell? ⟨b5, o5 + i, none⟩ = some (.int .i64 (f5 i)))
    (r6 : ∀ i, i < n → w.cell? ⟨b6, o6 + i, none⟩ = some (.int .i64 (f6 i))) (r7 : ∀ i, i < n → w.cell? ⟨b7, o7 + i, none⟩ = some (.int .i64 (f7 i))) :
    Calls Try.prog 5 #[.int .i64 now, .int .i64 period, .int .i64 eps, .int .i64 back, .slice (some ⟨b4, o4, none⟩) n c4, .slice (some ⟨b5, o5, none⟩) n c5, .slice (some ⟨b6, o6, none⟩) n c6, .slice (some ⟨b7, o7, none⟩) n c7] w
      fun e w' => e = .returned (.bool true) ∧ Below w.heap.size w w' := by
  have hmk := make26 n hn
  have hnil : ∀ (w : World) (a : Option Addr) (n c : Nat), (binOp .neq 26 (.slice a n c) (.slice none 0 0)).run Try.prog w = .ok (.bool (!a.isNone)) w := fun w a n c => run_neq_slice_nil_any w 26 2 a n c 0 0 Try.underlying26
  go_enter Try.func5, Try.ntmps5
  go_wp2_with fail
  refine (bytes8_any _ _ _ _ _ _ _ _ _ _ _ _ _ _ _ _ _ (by unfold maxLen; omega) (by unfold maxLen; omega) (by unfold maxLen; omega) (by unfold maxLen; omega)).mono ?_
  rintro e w' ⟨bb, rfl, rfl⟩
  cases bb
  · go_wp2
    go_ret
    exact ⟨rfl, Below.refl _ _⟩
  go_wp2_with fail
  refine (premise_rows now period eps back 9223372036854775807 n b4 o4 c4 b5 o5 c5 b6 o6 c6 b7 o7 c7 f4 f5 f6 f7 _ hn0 hn r4 r5 r6 r7).mono ?_
  rintro e w' ⟨bb, j, rfl, rfl, hprem⟩
  cases bb
  · clear hprem
    go_wp2
    go_ret
    exact ⟨rfl, (Below.refl _ _).trans ⟨rfl, rfl, rfl, Nat.le_refl _, fun _ _ => rfl⟩⟩
  obtain ⟨⟨t0, t1, t2, t3, t4⟩, hok⟩ := hprem rfl
  have HB : Hid (Below w'.heap.size w' (w'.drewN j)) := ⟨rfl, rfl, rfl, Nat.le_refl _, fun _ _ => rfl⟩
  have HZ : Hid ((w'.drewN j).heap.size = w'.heap.size) := rfl
  have HOK : Hid _ := hok
  replace h4 : b4 < (w'.drewN j).heap.size := h4
  replace h5 : b5 < (w'.drewN j).heap.size := h5
  replace h6 : b6 < (w'.drewN j).heap.size := h6
  replace h7 : b7 < (w'.drewN j).heap.size := h7
  replace r4 : ∀ i, i < n → (w'.drewN j).cell? ⟨b4, o4 + i, none⟩ = some (.int .i64 (f4 i)) := r4
  replace r5 : ∀ i, i < n → (w'.drewN j).cell? ⟨b5, o5 + i, none⟩ = some (.int .i64 (f5 i)) := r5
  replace r6 : ∀ i, i < n → (w'.drewN j).cell? ⟨b6, o6 + i, none⟩ = some (.int .i64 (f6 i)) := r6
  replace r7 : ∀ i, i < n → (w'.drewN j).cell? ⟨b7, o7 + i, none⟩ = some (.int .i64 (f7 i)) := r7
  clear hprem hok
  generalize w'.drewN j = W at *
  have cp4 := copy26 W n b4 o4 c4 f4 h4 r4
  have cp5 := copy26 (W.alloc (.cells (row n f4) 2)) n b5 o5 c5 f5 (by simp; omega) (fun i hi => by rw [World.cell?_alloc_lt _ _ _ (by simpa using h5)]; exact r5 i hi)
  have cp6 := copy26 ((W.alloc (.cells (row n f4) 2)).alloc (.cells (row n f5) 2)) n b6 o6 c6 f6 (by simp; omega) (fun i hi => by rw [World.cell?_alloc_lt _ _ _ (by simp; omega), World.cell?_alloc_lt _ _ _ (by simpa using h6)]; exact r6 i hi)
  have cp7 := copy26 (((W.alloc (.cells (row n f4) 2)).alloc (.cells (row n f5) 2)).alloc (.cells (row n f6) 2)) n b7 o7 c7 f7 (by simp; omega) (fun i hi => by rw [World.cell?_alloc_lt _ _ _ (by simp; omega), World.cell?_alloc_lt _ _ _ (by simp; omega), World.cell?_alloc_lt _ _ _ (by simpa using h7)]; exact r7 i hi)
  have sz : ∀ (w : World) (o : Obj), (w.alloc o).heap.size = w.heap.size + 1 := fun w o => by simp
  simp only [sz] at cp5 cp6 cp7
  clear sz
  clear r4 r5 r6 r7
  go_wp2_with fail
  obtain ⟨x1, x2, x3, x4, x5, x6⟩ := four_rows W (.cells (row n f4) 2) (.cells (row n f5) 2) (.cells (row n f6) 2) (.cells (row n f7) 2)
  generalize (((W.alloc (.cells (row n f4) 2)).alloc (.cells (row n f5) 2)).alloc (.cells (row n f6) 2)).alloc (.cells (row n f7) 2) = W4 at *
  clear cp4 cp5 cp6 cp7 hmk hnil h4 h5 h6 h7
  have HW : Hid (Below W.heap.size W W4) := x1
  have H4 : Hid _ := x3
  have H5 : Hid _ := x4
  have H6 : Hid _ := x5
  have H7 : Hid _ := x6
  have HS4 : Hid _ := x2
  clear x1 x2 x3 x4 x5 x6
  generalize W.heap.size = N at *
  have lt4 : N < W4.heap.size := by rw [HS4.out]; omega
  have lt5 : N + 1 < W4.heap.size := by rw [HS4.out]; omega
  have lt6 : N + 1 + 1 < W4.heap.size := by rw [HS4.out]; omega
  have lt7 : N + 1 + 1 + 1 < W4.heap.size := by rw [HS4.out]; omega
  refine (readings_any n N (N + 1) (N + 1 + 1) f4 f5 f6 _ hn lt4 lt5 lt6 (row_cells H4.out) (row_cells H5.out) (row_cells H6.out) (fun i hi => ⟨(HOK.out i hi).1, (HOK.out i hi).2.1⟩) (fun i hi => ⟨(HOK.out i hi).2.2.1, (HOK.out i hi).2.2.2.1⟩)).mono ?_
  rintro e w1 ⟨rfl, mk1⟩
  have K4 : Hid _ := (mk1.below.block _ lt4).trans H4.out
  have K5 : Hid _ := (mk1.below.block _ lt5).trans H5.out
  have K6 : Hid _ := (mk1.below.block _ lt6).trans H6.out
  have K7 : Hid _ := (mk1.below.block _ lt7).trans H7.out
  have M1 : Hid _ := mk1
  clear mk1 lt4 lt5 lt6 lt7 H4 H5 H6 H7
  go_wp2_with fail
  refine (new_any now period eps back n N (N + 1) (N + 1 + 1) (N + 1 + 1 + 1) f4 f5 f6 f7 _ hn (blk_lt K4.out) (blk_lt K5.out) (blk_lt K6.out) (blk_lt K7.out) (row_cells K4.out) (row_cells K5.out) (row_cells K6.out) (row_cells K7.out)).mono ?_
  rintro e w2 ⟨rfl, st2, be2, sz2⟩
  have z1 : w1.heap.size = N + 5 := by rw [M1.out.size, HS4.out]
  have HT : Hid (Below N W w2) := (HW.out.trans (M1.out.below.mono (by rw [HS4.out]; omega))).trans (be2.mono (by omega))
  have RW : Hid (w2.heap[W4.heap.size]? = some (.cells (row n (want f4 f5 f6)) 2 (0, 0))) := (be2.block _ (by rw [HS4.out]; omega)).trans M1.out.own
  have Z2 : Hid (w2.heap.size = N + 9 + 2 * n) := by show w2.heap.size = _; omega
  have Z1 : Hid _ := z1
  have ST : Hid _ := st2
  clear z1 st2 be2 sz2 K4 K5 K6 K7 M1 HW
  go_wp2_with fail
  refine (zzobserve_any w1.heap.size n now period eps back f4 f5 f6 f7 _ _ hn0 hn (fun i hi => ⟨(HOK.out i hi).1, (HOK.out i hi).2.1⟩) (fun i hi => ⟨(HOK.out i hi).2.2.1, (HOK.out i hi).2.2.2.1⟩) (fun i hi => ⟨(HOK.out i hi).2.2.2.2.1, (HOK.out i hi).2.2.2.2.2.1⟩) (fun i hi => (HOK.out i hi).2.2.2.2.2.2.2) t1 t2 ST.out).mono ?_
  rintro e w3 ⟨rfl, v3, st3, ou3, mk3⟩
  have kk := obs_keeps (N := N) ou3 mk3
  have HT3 : Hid (Below N W w3) := HT.out.trans (kk.2 (by rw [Z1.out]; omega) (by rw [Z2.out]; omega))
  have RW3 : Hid (w3.heap[W4.heap.size]? = some (.cells (row n (want f4 f5 f6)) 2 (0, 0))) := (kk.1 _ (by rw [HS4.out, Z2.out]; omega) (by rw [HS4.out, Z1.out]; omega)).trans RW.out
  have RA3 : Hid (w3.heap[w2.heap.size]? = some (.cells (row n (want f4 f5 f6)) 2 (0, 0))) := mk3.own
  have Z3 : Hid (w3.heap.size = N + 10 + 2 * n) := by show w3.heap.size = _; rw [mk3.size, Z2.out]; omega
  have ST3 : Hid _ := st3.below mk3.below (by rw [Z1.out, Z2.out]; omega) hn0
  clear kk st3 ou3 mk3 HT RW ST
  go_wp2_with fail
  refine (zzobserve_any w1.heap.size n now period (epsV now period eps n (want f4 f5 f6)) back f4 f5 (want f4 f5 f6) (want f4 f5 f6) (want f4 f5 f6) _ hn0 hn (fun i hi => ⟨(HOK.out i hi).1, (HOK.out i hi).2.1⟩) (fun i hi => ⟨(HOK.out i hi).2.2.1, (HOK.out i hi).2.2.2.1⟩) (fun i hi => rdg_bd _ _ _ (HOK.out i hi).1 (HOK.out i hi).2.2.1 (HOK.out i hi).2.2.2.2.1 (HOK.out i hi).2.2.2.2.2.1) (fun i hi => Int.le_refl _) t1 t2 ST3.out).mono ?_
  rw [want_idem, eps_idem]
  rintro e w4 ⟨rfl, v4, st4, ou4, mk4⟩
  have kk := obs_keeps (N := N) ou4 mk4
  have HT4 : Hid (Below N W w4) := HT3.out.trans (kk.2 (by rw [Z1.out]; omega) (by rw [Z3.out]; omega))
  have RW4 : Hid (w4.heap[W4.heap.size]? = some (.cells (row n (want f4 f5 f6)) 2 (0, 0))) := (kk.1 _ (by rw [HS4.out, Z3.out]; omega) (by rw [HS4.out, Z1.out]; omega)).trans RW3.out
  have RA4 : Hid (w4.heap[w2.heap.size]? = some (.cells (row n (want f4 f5 f6)) 2 (0, 0))) := (kk.1 _ (by rw [Z2.out, Z3.out]; omega) (by rw [Z2.out, Z1.out]; omega)).trans RA3.out
  have RB4 : Hid (w4.heap[w3.heap.size]? = some (.cells (row n (want f4 f5 f6)) 2 (0, 0))) := mk4.own
  have Z4 : Hid (w4.heap.size = N + 11 + 2 * n) := by show w4.heap.size = _; rw [mk4.size, Z3.out]; omega
  have ST4 : Hid _ := st4.below mk4.below (by rw [Z1.out, Z3.out]; omega) hn0
  clear kk st4 ou4 mk4 HT3 RW3 RA3 ST3
  go_wp2_with fail
  refine (report_any w1.heap.size n now period _ back f4 f5 _ _ _ _ ST4.out).mono ?_
  rintro e w5 ⟨rfl, j5, rfl⟩
  go_wp2_with fail
  refine (zzlast_any w1.heap.size n now period (epsV now period eps n (want f4 f5 f6)) back f4 f5 (want f4 f5 f6) (want f4 f5 f6) (want f4 f5 f6) (w4.drewN j5) hn (ST4.out.of_heap rfl)).mono ?_
  rintro e w6 ⟨rfl, mk6⟩
  have mk6' : Mk w4.heap.size n (w4.drewN j5) w6 (want f4 f5 f6) := mk6
  have HT6 : Hid (Below N W w6) := HT4.out.trans ((show Below N w4 (w4.drewN j5) from ⟨rfl, rfl, rfl, Nat.le_refl _, fun _ _ => rfl⟩).trans (mk6'.below.mono (by rw [Z4.out]; omega)))
  have RW6 : Hid (w6.heap[W4.heap.size]? = some (.cells (row n (want f4 f5 f6)) 2 (0, 0))) := (mk6'.below.block _ (by rw [HS4.out, Z4.out]; omega)).trans RW4.out
  have RA6 : Hid (w6.heap[w2.heap.size]? = some (.cells (row n (want f4 f5 f6)) 2 (0, 0))) := (mk6'.below.block _ (by rw [Z2.out, Z4.out]; omega)).trans RA4.out
  have RB6 : Hid (w6.heap[w3.heap.size]? = some (.cells (row n (want f4 f5 f6)) 2 (0, 0))) := (mk6'.below.block _ (by rw [Z3.out, Z4.out]; omega)).trans RB4.out
  have RC6 : Hid (w6.heap[w4.heap.size]? = some (.cells (row n (want f4 f5 f6)) 2 (0, 0))) := mk6'.own
  clear mk6 mk6' HT4 RW4 RA4 RB4 ST4
  go_wp2_with fail
  go_loopw [29] (fun i wr => ∃ k jj : Nat, k ≤ n ∧ i = .int .i64 k ∧ wr = w6.drewN jj) (fun i _ => n - (intOf i).toNat)
  case atStart => exact ⟨0, 0, Nat.zero_le _, rfl, rfl⟩
  case round =>
    obtain ⟨k, jj, hk, rfl, rfl⟩ := hrel
    by_cases hlt : k < n
    · have d1 := row_cells RW6.out k hlt
      have d2 := row_cells RA6.out k hlt
      have d3 := row_cells RB6.out k hlt
      have d4 := row_cells RC6.out k hlt
      go_wp2
      go_quiet (fail)
      go_wp2
      go_roundw
      case rel => exact ⟨k + 1, _, hlt, by go_num, rfl⟩
      case measure => simp [intOf]; omega
    · obtain rfl : k = n := by omega
      go_wp2_with fail
      refine (epsilon_any now period eps k W4.heap.size (want f4 f5 f6) (w6.drewN jj) hn0 hn t1 t2 (row_cells RW6.out) (fun i hi => rdg_bd _ _ _ (HOK.out i hi).1 (HOK.out i hi).2.2.1 (HOK.out i hi).2.2.2.2.1 (HOK.out i hi).2.2.2.2.2.1)).mono ?_
      rintro e w7 ⟨rfl, al7, tp7⟩
      have HF : Hid (Below w'.heap.size w' w7) := by
        have h6 : Below w'.heap.size w' w6 := HB.out.trans (by rw [← HZ.out]; exact HT6.out)
        exact ⟨al7.2.1.trans h6.os, tp7.trans h6.tape, al7.2.2.trans h6.output, by rw [al7.1]; exact h6.size, fun q hq => by rw [al7.1]; exact h6.block q hq⟩
      clear al7 tp7
      go_wp2
      go_ret
      exact ⟨rfl, HF.out⟩
end Go.Proofs.Qxb6613595a
