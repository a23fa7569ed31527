import Derived.Test.Qxb6613595aObsTwiceAll
namespace Go.Proofs.Qxb6613595a
open Go.RowKit Go.MuLone

/-! ### The plain law: a shift by c -/
def plus (f : Nat → Int) (c : Int) : Nat → Int := fun i => f i + c

theorem rdg_shift (t d l c : Int) (h0 : 0 ≤ t) (h1 : t ≤ 1152921504606846976) (h2 : 0 ≤ d) (h3 : d ≤ 1152921504606846976) (hc0 : 0 ≤ c) (hc : c ≤ 1152921504606846976) : rdg (t + c) d (l + c) = rdg t d l + c := by
  have e1 : lat t d = t + d := lat_le t d (by unfold mx; omega)
  have e2 : lat (t + c) d = t + c + d := lat_le (t + c) d (by unfold mx; omega)
  unfold rdg
  rw [e1, e2]
  by_cases h : l < t + d
  · rw [if_pos h, if_pos (by omega)]; omega
  · rw [if_neg h, if_neg (by omega)]
theorem hi_plus (f : Nat → Int) (c : Int) (k : Nat) : hi (plus f c) k = hi f k + c := by
  induction k with
  | zero => rfl
  | succ k ih =>
    simp only [hi, ih, plus]
    by_cases h : hi f k < f (k + 1)
    · rw [if_pos h, if_pos (by omega)]
    · rw [if_neg h, if_neg (by omega)]
theorem lo_plus (f : Nat → Int) (c : Int) (k : Nat) : lo (plus f c) k = lo f k + c := by
  induction k with
  | zero => rfl
  | succ k ih =>
    simp only [lo, ih, plus]
    by_cases h : f (k + 1) < lo f k
    · rw [if_pos h, if_pos (by omega)]
    · rw [if_neg h, if_neg (by omega)]
theorem eps_plus (now period eps c : Int) (n : Nat) (f : Nat → Int) : epsV now period eps n (plus f c) = epsV now period eps n f := by
  unfold epsV
  rw [hi_plus, lo_plus, show hi f (n - 1) + c - (lo f (n - 1) + c) = hi f (n - 1) - lo f (n - 1) by omega]
theorem eps_congr (now period eps : Int) (n : Nat) (f g : Nat → Int) (h0 : 0 < n) (h : ∀ i, i < n → f i = g i) : epsV now period eps n f = epsV now period eps n g := by
  unfold epsV
  rw [hi_congr f g (n - 1) (fun i hi => h i (by omega)), lo_congr f g (n - 1) (fun i hi => h i (by omega))]

theorem St.out {w w' : World} {B n lo hi : Nat} {now period eps back : Int} {sr of cl la re : Nat → Int} (h : St w B n now period eps back sr of cl la re) (hb : Out lo hi w w') (hM : hi ≤ B ∨ B + 4 + 2 * n ≤ lo) (h0 : 0 < n) : St w' B n now period eps back sr of cl la re :=
  ⟨by rw [hb.block _ (by omega)]; exact h.sim, by rw [hb.block _ (by omega)]; exact h.ptr, by rw [hb.block _ (by omega)]; exact h.last, by rw [hb.block _ (by omega)]; exact h.reads, fun i hi => by rw [hb.block _ (by omega)]; exact h.var i hi, fun i hi => by rw [hb.block _ (by omega)]; exact h.clk i hi⟩

/-- three new rows behind the blocks below N -/
structure Tri (N n : Nat) (w wr : World) (g1 g2 g3 : Nat → Int) : Prop where
  below : Below N w wr
  size : wr.heap.size = N + 3
  one : wr.heap[N]? = some (.cells (row n g1) 2 (0, 0))
  two : wr.heap[N + 1]? = some (.cells (row n g2) 2 (0, 0))
  three : wr.heap[N + 1 + 1]? = some (.cells (row n g3) 2 (0, 0))

theorem Tri.init (w : World) (n : Nat) : Tri w.heap.size n w (((w.alloc (.cells (row n (fun _ => 0)) 2)).alloc (.cells (row n (fun _ => 0)) 2)).alloc (.cells (row n (fun _ => 0)) 2)) (fun _ => 0) (fun _ => 0) (fun _ => 0) := by
  refine ⟨?_, by simp, ?_, ?_, ?_⟩
  · exact (((Below.refl _ _).alloc (Nat.le_refl _) _).alloc (by simp) _).alloc (by simp; omega) _
  · show (((w.heap.push _).push _).push _)[w.heap.size]? = _
    rw [push_get _ _ _ (by simp; omega), push_get _ _ _ (by simp), push_new _ _ _ rfl]
  · show (((w.heap.push _).push _).push _)[w.heap.size + 1]? = _
    rw [push_get _ _ _ (by simp), push_new _ _ _ (by simp)]
  · show (((w.heap.push _).push _).push _)[w.heap.size + 2]? = _
    rw [push_new _ _ _ (by simp)]
theorem Tri.store {N n : Nat} {w wr : World} {g1 g2 g3 : Nat → Int} (h : Tri N n w wr g1 g2 g3) (k : Nat) (v1 v2 v3 : Int) :
    Tri N n w (((wr.setCell ⟨N, k, none⟩ (.int .i64 v1)).setCell ⟨N + 1, k, none⟩ (.int .i64 v2)).setCell ⟨N + 1 + 1, k, none⟩ (.int .i64 v3)) (upd g1 k v1) (upd g2 k v2) (upd g3 k v3) := by
  have o : ∀ (W : World) (b : Nat) (v : Value) j, j ≠ b → (W.setCell ⟨b, k, none⟩ v).heap[j]? = W.heap[j]? := fun W b v j hj => Below.heap_setCell _ _ _ _ hj
  refine ⟨((h.below.setCell (by simp) _).setCell (by simp) _).setCell (by simp; omega) _, by simpa [World.setCell] using h.size, ?_, ?_, ?_⟩
  · rw [o _ _ _ _ (by omega), o _ _ _ _ (by omega), setCell_own _ N k _ 2 _ h.one, row_set]
  · rw [o _ _ _ _ (by omega), setCell_own _ (N + 1) k _ 2 _ (by rw [o _ _ _ _ (by omega)]; exact h.two), row_set]
  · rw [setCell_own _ (N + 1 + 1) k _ 2 _ (by rw [o _ _ _ _ (by omega), o _ _ _ _ (by omega)]; exact h.three), row_set]

set_option maxRecDepth 20000 in
set_option maxHeartbeats 4000000 in
theorem shift_rows (now period eps back c : Int) (n b4 o4 c4 b5 o5 c5 b6 o6 c6 b7 o7 c7 : Nat) (f4 f5 f6 f7 : Nat → Int) (w : World) (hn0 : 0 < n) (hn : n ≤ 4096) (hc0 : 0 ≤ c) (hc1 : c ≤ 1152921504606846976)
    (h4 : b4 < w.heap.size) (h5 : b5 < w.heap.size) (h6 : b6 < w.heap.size) (h7 : b7 < w.heap.size)
    (r4 : ∀ i, i < n → w.cell? ⟨b4, o4 + i, none⟩ = some (.int .i64 (f4 i))) (r5 : ∀ i, i < n → w.cell? ⟨b5, o5 + i, none⟩ = some (.int .i64 (f5 i)))
    (r6 : ∀ i, i < n → w.cell? ⟨b6, o6 + i, none⟩ = some (.int .i64 (f6 i))) (r7 : ∀ i, i < n → w.cell? ⟨b7, o7 + i, none⟩ = some (.int .i64 (f7 i))) :
    Calls Try.prog 6 #[.int .i64 now, .int .i64 period, .int .i64 eps, .int .i64 back, .slice (some ⟨b4, o4, none⟩) n c4, .slice (some ⟨b5, o5, none⟩) n c5, .slice (some ⟨b6, o6, none⟩) n c6, .slice (some ⟨b7, o7, none⟩) n c7, .int .i64 c] w
      fun e w' => e = .returned (.bool true) ∧ Below w.heap.size w w' := by
  have hmk := make26 n hn
  have hnil : ∀ (w : World) (a : Option Addr) (n c : Nat), (binOp .neq 26 (.slice a n c) (.slice none 0 0)).run Try.prog w = .ok (.bool (!a.isNone)) w := fun w a n c => run_neq_slice_nil_any w 26 2 a n c 0 0 Try.underlying26
  go_enter Try.func6, Try.ntmps6
  go_wp2_with fail
  refine (bytes16_any _ _ _ _ _ _ _ _ _ _ _ _ _ _ _ _ _ _ (by unfold maxLen; omega) (by unfold maxLen; omega) (by unfold maxLen; omega) (by unfold maxLen; omega)).mono ?_
  rintro e w' ⟨bb, rfl, rfl⟩
  cases bb
  · go_wp2
    go_ret
    exact ⟨rfl, Below.refl _ _⟩
  go_wp2_with fail
  refine (premise_rows now period eps back 1152921504606846976 n b4 o4 c4 b5 o5 c5 b6 o6 c6 b7 o7 c7 f4 f5 f6 f7 _ hn0 hn r4 r5 r6 r7).mono ?_
  rintro e w' ⟨bb, j, rfl, rfl, hprem⟩
  cases bb
  · clear hprem
    go_wp2
    go_ret
    exact ⟨rfl, (Below.refl _ _).trans ⟨rfl, rfl, rfl, Nat.le_refl _, fun _ _ => rfl⟩⟩
  obtain ⟨⟨t0, t1, t2, t3, t4⟩, hok⟩ := hprem rfl
  have HB : Hid (Below w'.heap.size w' (w'.drewN j)) := ⟨rfl, rfl, rfl, Nat.le_refl _, fun _ _ => rfl⟩
  have HZ : Hid ((w'.drewN j).heap.size = w'.heap.size) := rfl
  have HOK : Hid _ := hok
  replace h4 : b4 < (w'.drewN j).heap.size := h4
  replace h5 : b5 < (w'.drewN j).heap.size := h5
  replace h6 : b6 < (w'.drewN j).heap.size := h6
  replace h7 : b7 < (w'.drewN j).heap.size := h7
  replace r4 : ∀ i, i < n → (w'.drewN j).cell? ⟨b4, o4 + i, none⟩ = some (.int .i64 (f4 i)) := r4
  replace r5 : ∀ i, i < n → (w'.drewN j).cell? ⟨b5, o5 + i, none⟩ = some (.int .i64 (f5 i)) := r5
  replace r6 : ∀ i, i < n → (w'.drewN j).cell? ⟨b6, o6 + i, none⟩ = some (.int .i64 (f6 i)) := r6
  replace r7 : ∀ i, i < n → (w'.drewN j).cell? ⟨b7, o7 + i, none⟩ = some (.int .i64 (f7 i)) := r7
  clear hprem hok
  generalize w'.drewN j = W at *
  have cp4 := copy26 W n b4 o4 c4 f4 h4 r4
  have cp5 := copy26 (W.alloc (.cells (row n f4) 2)) n b5 o5 c5 f5 (by simp; omega) (fun i hi => by rw [World.cell?_alloc_lt _ _ _ (by simpa using h5)]; exact r5 i hi)
  have cp6 := copy26 ((W.alloc (.cells (row n f4) 2)).alloc (.cells (row n f5) 2)) n b6 o6 c6 f6 (by simp; omega) (fun i hi => by rw [World.cell?_alloc_lt _ _ _ (by simp; omega), World.cell?_alloc_lt _ _ _ (by simpa using h6)]; exact r6 i hi)
  have cp7 := copy26 (((W.alloc (.cells (row n f4) 2)).alloc (.cells (row n f5) 2)).alloc (.cells (row n f6) 2)) n b7 o7 c7 f7 (by simp; omega) (fun i hi => by rw [World.cell?_alloc_lt _ _ _ (by simp; omega), World.cell?_alloc_lt _ _ _ (by simp; omega), World.cell?_alloc_lt _ _ _ (by simpa using h7)]; exact r7 i hi)
  have sz : ∀ (w : World) (o : Obj), (w.alloc o).heap.size = w.heap.size + 1 := fun w o => by simp
  simp only [sz] at cp5 cp6 cp7
  clear sz r4 r5 r6 r7
  go_wp2_with fail
  obtain ⟨x1, x2, x3, x4, x5, x6⟩ := four_rows W (.cells (row n f4) 2) (.cells (row n f5) 2) (.cells (row n f6) 2) (.cells (row n f7) 2)
  generalize (((W.alloc (.cells (row n f4) 2)).alloc (.cells (row n f5) 2)).alloc (.cells (row n f6) 2)).alloc (.cells (row n f7) 2) = W4 at *
  clear cp4 cp5 cp6 cp7 hmk hnil h4 h5 h6 h7
  have HW : Hid (Below W.heap.size W W4) := x1
  have H4 : Hid _ := x3
  have H5 : Hid _ := x4
  have H6 : Hid _ := x5
  have H7 : Hid _ := x6
  have HS4 : Hid _ := x2
  have TR : Hid (Tri (W.heap.size + 1 + 1 + 1 + 1) n W4 (((W4.alloc (.cells (row n (fun _ => 0)) 2)).alloc (.cells (row n (fun _ => 0)) 2)).alloc (.cells (row n (fun _ => 0)) 2)) (fun _ => 0) (fun _ => 0) (fun _ => 0)) := by
    have := Tri.init W4 n
    rw [x2] at this
    exact this
  clear x1 x2 x3 x4 x5 x6
  generalize W.heap.size = N at *
  go_loopw [27] (fun i wr => ∃ k : Nat, k ≤ n ∧ i = .int .i64 k ∧ Tri (N + 1 + 1 + 1 + 1) n W4 wr (mixf k (plus f4 c) (fun _ => 0)) (mixf k (plus f6 c) (fun _ => 0)) (mixf k (plus f7 c) (fun _ => 0))) (fun i _ => n - (intOf i).toNat)
  case atStart => exact ⟨0, Nat.zero_le _, rfl, by simpa only [mixf_zero] using TR.out⟩
  case round =>
    obtain ⟨k, hk, rfl, tr⟩ := hrel
    by_cases hlt : k < n
    · have ok := HOK.out k hlt
      unfold okAt at ok
      have d4 := (tr.below.cell (p := ⟨N, k, none⟩) (by simp; omega)).trans (row_cells H4.out k hlt)
      have d6 := (tr.below.cell (p := ⟨N + 1 + 1, k, none⟩) (by simp)).trans (row_cells H6.out k hlt)
      have d7 := (tr.below.cell (p := ⟨N + 1 + 1 + 1, k, none⟩) (by simp)).trans (row_cells H7.out k hlt)
      have a1 := row_cells tr.one k hlt
      have a2 := row_cells tr.two k hlt
      have a3 := row_cells tr.three k hlt
      have e1 := free_blk tr.one k
      have e2 := free_blk tr.two k
      have e3 := free_blk tr.three k
      have HR : Hid _ := tr.store k (plus f4 c k) (plus f6 c k) (plus f7 c k)
      rw [mixf_upd, mixf_upd, mixf_upd] at HR
      clear tr TR
      go_wp2
      go_roundw
      case rel => exact ⟨k + 1, hlt, by go_num, HR.out⟩
      case measure => simp [intOf]; omega
    · obtain rfl : k = n := by omega
      have Y4 : Hid (wr.heap[N]? = some (.cells (row k f4) 2 (0, 0))) := (tr.below.block _ (by omega)).trans H4.out
      have Y5 : Hid (wr.heap[N + 1]? = some (.cells (row k f5) 2 (0, 0))) := (tr.below.block _ (by omega)).trans H5.out
      have Y6 : Hid (wr.heap[N + 1 + 1]? = some (.cells (row k f6) 2 (0, 0))) := (tr.below.block _ (by omega)).trans H6.out
      have Y7 : Hid (wr.heap[N + 1 + 1 + 1]? = some (.cells (row k f7) 2 (0, 0))) := (tr.below.block _ (by omega)).trans H7.out
      have X4 : Hid (wr.heap[N + 1 + 1 + 1 + 1]? = some (.cells (row k (plus f4 c)) 2 (0, 0))) := by show _ = _; rw [tr.one, row_congr k _ _ (mixf_full k _ _)]
      have X6 : Hid (wr.heap[N + 1 + 1 + 1 + 1 + 1]? = some (.cells (row k (plus f6 c)) 2 (0, 0))) := by show _ = _; rw [tr.two, row_congr k _ _ (mixf_full k _ _)]
      have X7 : Hid (wr.heap[N + 1 + 1 + 1 + 1 + 1 + 1]? = some (.cells (row k (plus f7 c)) 2 (0, 0))) := by show _ = _; rw [tr.three, row_congr k _ _ (mixf_full k _ _)]
      have ZR : Hid (wr.heap.size = N + 7) := tr.size
      have HT : Hid (Below N W wr) := HW.out.trans (tr.below.mono (by omega))
      clear tr TR HW H4 H5 H6 H7 HS4
      have okb := fun i hi => HOK.out i hi
      unfold okAt at okb
      have OB : Hid _ := okb
      clear okb
      go_wp2_with fail
      refine (readings_any k N (N + 1) (N + 1 + 1) f4 f5 f6 _ hn (by rw [ZR.out]; omega) (by rw [ZR.out]; omega) (by rw [ZR.out]; omega) (row_cells Y4.out) (row_cells Y5.out) (row_cells Y6.out) (fun i hi => by have := OB.out i hi; unfold mx; omega) (fun i hi => by have := OB.out i hi; unfold mx; omega)).mono ?_
      rintro e w1 ⟨rfl, mk1⟩
      have lt : ∀ j, j < N + 7 → j < wr.heap.size := fun j hj => by rw [ZR.out]; exact hj
      have K4 : Hid _ := (mk1.below.block _ (lt N (by omega))).trans Y4.out
      have K5 : Hid _ := (mk1.below.block _ (lt (N + 1) (by omega))).trans Y5.out
      have K6 : Hid _ := (mk1.below.block _ (lt (N + 1 + 1) (by omega))).trans Y6.out
      have K7 : Hid _ := (mk1.below.block _ (lt (N + 1 + 1 + 1) (by omega))).trans Y7.out
      have V4 : Hid _ := (mk1.below.block _ (lt (N + 1 + 1 + 1 + 1) (by omega))).trans X4.out
      have V6 : Hid _ := (mk1.below.block _ (lt (N + 1 + 1 + 1 + 1 + 1) (by omega))).trans X6.out
      have V7 : Hid _ := (mk1.below.block _ (lt (N + 1 + 1 + 1 + 1 + 1 + 1) (by omega))).trans X7.out
      have RW1 : Hid (w1.heap[wr.heap.size]? = some (.cells (row k (want f4 f5 f6)) 2 (0, 0))) := mk1.own
      have Z1 : Hid (w1.heap.size = N + 8) := by show w1.heap.size = _; have := ZR.out; have := mk1.size; omega
      have HT1 : Hid (Below N W w1) := HT.out.trans (mk1.below.mono (by rw [ZR.out]; omega))
      clear mk1 lt Y4 Y5 Y6 Y7 X4 X6 X7 HT
      go_wp2_with fail
      refine (new_any now period eps back k N (N + 1) (N + 1 + 1) (N + 1 + 1 + 1) f4 f5 f6 f7 _ hn (blk_lt K4.out) (blk_lt K5.out) (blk_lt K6.out) (blk_lt K7.out) (row_cells K4.out) (row_cells K5.out) (row_cells K6.out) (row_cells K7.out)).mono ?_
      rintro e w2 ⟨rfl, st2, be2, sz2⟩
      have lt : ∀ j, j < N + 8 → j < w1.heap.size := fun j hj => by rw [Z1.out]; exact hj
      have L5 : Hid _ := (be2.block _ (lt (N + 1) (by omega))).trans K5.out
      have L4 : Hid _ := (be2.block _ (lt (N + 1 + 1 + 1 + 1) (by omega))).trans V4.out
      have L6 : Hid _ := (be2.block _ (lt (N + 1 + 1 + 1 + 1 + 1) (by omega))).trans V6.out
      have L7 : Hid _ := (be2.block _ (lt (N + 1 + 1 + 1 + 1 + 1 + 1) (by omega))).trans V7.out
      have RW2 : Hid (w2.heap[wr.heap.size]? = some (.cells (row k (want f4 f5 f6)) 2 (0, 0))) := (be2.block _ (lt _ (by rw [ZR.out]; omega))).trans RW1.out
      have Z2 : Hid (w2.heap.size = N + 12 + 2 * k) := by show w2.heap.size = _; have := Z1.out; omega
      have HT2 : Hid (Below N W w2) := HT1.out.trans (be2.mono (by rw [Z1.out]; omega))
      have ST2 : Hid _ := st2
      clear st2 be2 sz2 lt K4 K5 K6 K7 V4 V6 V7 RW1 HT1
      go_wp2_with fail
      refine (new_any now period eps back k (N + 1 + 1 + 1 + 1) (N + 1) (N + 1 + 1 + 1 + 1 + 1) (N + 1 + 1 + 1 + 1 + 1 + 1) (plus f4 c) f5 (plus f6 c) (plus f7 c) _ hn (blk_lt L4.out) (blk_lt L5.out) (blk_lt L6.out) (blk_lt L7.out) (row_cells L4.out) (row_cells L5.out) (row_cells L6.out) (row_cells L7.out)).mono ?_
      rintro e w3 ⟨rfl, st3, be3, sz3⟩
      have RW3 : Hid (w3.heap[wr.heap.size]? = some (.cells (row k (want f4 f5 f6)) 2 (0, 0))) := (be3.block _ (by rw [ZR.out, Z2.out]; omega)).trans RW2.out
      have Z3 : Hid (w3.heap.size = N + 16 + 4 * k) := by show w3.heap.size = _; have := Z2.out; omega
      have HT3 : Hid (Below N W w3) := HT2.out.trans (be3.mono (by rw [Z2.out]; omega))
      have SA3 : Hid _ := ST2.out.below be3 (by rw [Z1.out, Z2.out]; omega) hn0
      have SB3 : Hid _ := st3
      clear st3 be3 sz3 L4 L5 L6 L7 RW2 HT2 ST2
      go_wp2_with fail
      refine (zzobserve_any w1.heap.size k now period eps back f4 f5 f6 f7 _ _ hn0 hn (fun i hi => by have := OB.out i hi; unfold mx; omega) (fun i hi => by have := OB.out i hi; unfold mx; omega) (fun i hi => by have := OB.out i hi; unfold mx; omega) (fun i hi => by have := OB.out i hi; omega) t1 t2 SA3.out).mono ?_
      rintro e w4 ⟨rfl, v4, st4, ou4, mk4⟩
      have kk := obs_keeps (N := N) ou4 mk4
      have HT4 : Hid (Below N W w4) := HT3.out.trans (kk.2 (by rw [Z1.out]; omega) (by rw [Z3.out]; omega))
      have RW4 : Hid (w4.heap[wr.heap.size]? = some (.cells (row k (want f4 f5 f6)) 2 (0, 0))) := (kk.1 _ (by rw [ZR.out, Z3.out]; omega) (by rw [ZR.out, Z1.out]; omega)).trans RW3.out
      have RA4 : Hid (w4.heap[w3.heap.size]? = some (.cells (row k (want f4 f5 f6)) 2 (0, 0))) := mk4.own
      have Z4 : Hid (w4.heap.size = N + 17 + 4 * k) := by show w4.heap.size = _; have := Z3.out; have := mk4.size; omega
      have SA4 : Hid _ := st4.below mk4.below (by rw [Z1.out, Z3.out]; omega) hn0
      have SB4 : Hid _ := (SB3.out.out ou4 (Or.inl (by rw [Z1.out, Z2.out]; omega)) hn0).below mk4.below (by rw [Z2.out, Z3.out]; omega) hn0
      clear kk st4 ou4 mk4 HT3 RW3 SA3 SB3
      go_wp2_with fail
      refine (zzobserve_any w2.heap.size k now period eps back (plus f4 c) f5 (plus f6 c) (plus f7 c) _ _ hn0 hn (fun i hi => by have := OB.out i hi; unfold mx plus; omega) (fun i hi => by have := OB.out i hi; unfold mx; omega) (fun i hi => by have := OB.out i hi; unfold mx plus; omega) (fun i hi => by have := OB.out i hi; unfold plus; omega) t1 t2 SB4.out).mono ?_
      rintro e w5 ⟨rfl, v5, st5, ou5, mk5⟩
      have kk := obs_keeps (N := N) ou5 mk5
      have HT5 : Hid (Below N W w5) := HT4.out.trans (kk.2 (by rw [Z2.out]; omega) (by rw [Z4.out]; omega))
      have RW5 : Hid (w5.heap[wr.heap.size]? = some (.cells (row k (want f4 f5 f6)) 2 (0, 0))) := (kk.1 _ (by rw [ZR.out, Z4.out]; omega) (by rw [ZR.out, Z2.out]; omega)).trans RW4.out
      have RA5 : Hid (w5.heap[w3.heap.size]? = some (.cells (row k (want f4 f5 f6)) 2 (0, 0))) := (kk.1 _ (by rw [Z3.out, Z4.out]; omega) (by rw [Z3.out, Z2.out]; omega)).trans RA4.out
      have RB5 : Hid (w5.heap[w4.heap.size]? = some (.cells (row k (want (plus f4 c) f5 (plus f6 c))) 2 (0, 0))) := mk5.own
      have SA5 : Hid _ := (SA4.out.out ou5 (Or.inr (by rw [Z1.out, Z2.out]; omega)) hn0).below mk5.below (by rw [Z1.out, Z4.out]; omega) hn0
      have SB5 : Hid _ := st5.below mk5.below (by rw [Z2.out, Z4.out]; omega) hn0
      clear kk st5 ou5 mk5 HT4 RW4 RA4 SA4 SB4
      have wsh : ∀ i, i < k → want (plus f4 c) f5 (plus f6 c) i = want f4 f5 f6 i + c := fun i hi => by have := OB.out i hi; exact rdg_shift _ _ _ _ (by omega) (by omega) (by omega) (by omega) hc0 hc1
      have weq : epsV now period eps k (want (plus f4 c) f5 (plus f6 c)) = epsV now period eps k (want f4 f5 f6) := by
        rw [← eps_plus now period eps c k (want f4 f5 f6)]
        exact eps_congr now period eps k _ _ hn0 (fun i hi => wsh i hi)
      rw [weq] at SB5
      have RB5' : Hid (w5.heap[w4.heap.size]? = some (.cells (row k (plus (want f4 f5 f6) c)) 2 (0, 0))) := by show _ = _; rw [RB5.out, row_congr k _ _ wsh]; rfl
      have WB : Hid (∀ i, i < k → 0 ≤ want f4 f5 f6 i ∧ want f4 f5 f6 i ≤ 2305843009213693952) := fun i hi => by
        have h := OB.out i hi
        have e1 : lat (f4 i) (f5 i) = f4 i + f5 i := lat_le _ _ (by unfold mx; omega)
        show 0 ≤ rdg _ _ _ ∧ rdg _ _ _ ≤ _
        unfold rdg
        rw [e1]
        split <;> omega
      clear wsh weq RB5
      go_wp2_with fail
      refine (report_any w1.heap.size k now period _ back f4 f5 _ _ _ _ SA5.out).mono ?_
      rintro e w6 ⟨rfl, j6, rfl⟩
      go_wp2_with fail
      refine (report_any w2.heap.size k now period (epsV now period eps k (want f4 f5 f6)) back (plus f4 c) f5 (want (plus f4 c) f5 (plus f6 c)) (want (plus f4 c) f5 (plus f6 c)) (want (plus f4 c) f5 (plus f6 c)) (w5.drewN j6) (SB5.out.of_heap rfl)).mono ?_
      rintro e w7 ⟨rfl, j7, rfl⟩
      clear SA5 SB5
      go_wp2_with fail
      go_loopw [37] (fun i wr => ∃ q jj : Nat, q ≤ k ∧ i = .int .i64 q ∧ wr = w5.drewN jj) (fun i _ => k - (intOf i).toNat)
      case atStart => exact ⟨0, _, Nat.zero_le _, rfl, rfl⟩
      case round =>
        obtain ⟨q, jj, hq, rfl, rfl⟩ := hrel
        by_cases hlt' : q < k
        · have d1 := row_cells RW5.out q hlt'
          have d2 := row_cells RA5.out q hlt'
          have d3 : w5.cell? ⟨w4.heap.size, q, none⟩ = some (.int .i64 (want f4 f5 f6 q + c)) := row_cells RB5'.out q hlt'
          have d4 := WB.out q hlt'
          have d5 := wrap_in (want f4 f5 f6 q + c) (by omega) (by omega)
          go_wp2
          go_quiet (fail)
          go_wp2
          go_roundw
          case rel => exact ⟨q + 1, _, hlt', by go_num, rfl⟩
          case measure => simp [intOf]; omega
        · obtain rfl : q = k := by omega
          go_wp2_with fail
          refine (epsilon_any now period eps q wr.heap.size (want f4 f5 f6) (w5.drewN jj) hn0 hn t1 t2 (row_cells RW5.out) (fun i hi => by have := WB.out i hi; unfold mx; omega)).mono ?_
          rintro e w8 ⟨rfl, al8, tp8⟩
          have HF : Hid (Below w'.heap.size w' w8) := by
            have h6 : Below w'.heap.size w' w5 := HB.out.trans (by rw [← HZ.out]; exact HT5.out)
            exact ⟨al8.2.1.trans h6.os, tp8.trans h6.tape, al8.2.2.trans h6.output, by rw [al8.1]; exact h6.size, fun q hq => by rw [al8.1]; exact h6.block q hq⟩
          clear al8 tp8
          go_wp2
          go_ret
          exact ⟨rfl, HF.out⟩
end Go.Proofs.Qxb6613595a
