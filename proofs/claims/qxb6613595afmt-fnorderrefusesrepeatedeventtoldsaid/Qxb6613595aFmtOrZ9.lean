import Derived.Test.Qxb6613595aFmtOrIx
namespace Go.Proofs.Qxb6613595aFmt
open Go.RowKit Go.Maps Go.Extern.Stop Go.Stop Go.Extern
attribute [local go_sem ↓] Go.wp_at_zero Go.wp_at_succ
set_option linter.unusedVariables false

/-- A slice's cells, wherever it lies. -/
def RdS (w : World) (p : Option Addr) (n : Nat) (f : Nat → Value) : Prop := ∀ j, j < n → ∃ b o, p = some ⟨b, o, none⟩ ∧ w.cell? ⟨b, o + j, none⟩ = some (f j)
theorem RdS.below {w w' : World} {p : Option Addr} {n : Nat} {f : Nat → Value} (h : RdS w p n f) (hb : Below w.heap.size w w') : RdS w' p n f := fun j hj => by
  obtain ⟨b, o, h1, h2⟩ := h j hj
  exact ⟨b, o, h1, kc hb h2⟩

/-- An event as it came in. -/
structure Zv where
  host : ByteArray
  hp : Option Addr
  hn : Nat
  hc : Nat
  Hs : Nat → ByteArray
  cp : Option Addr
  cn : Nat
  cc : Nat
  Cs : Nat → Nat
  text : ByteArray
  line : Int
  file : ByteArray
  exec : ByteArray
def Zv.E (z : Zv) : Nat → ByteArray × Nat := fun j => (z.Hs j, z.Cs j)

theorem i62 : (Tryf.prog.info? 62).map (fun i => (i.zero, i.size, i.bytes)) = some (some (.agg #[.string ⟨#[]⟩, .int .u64 0]), 2, 24) := by kernel_rfl
def zE (j : Nat) : Value := if j % 2 = 0 then .string ⟨#[]⟩ else .int .u64 0
theorem madeE (n : Nat) : madeCells #[.string ⟨#[]⟩, .int .u64 0] n = mkR n zE := by
  apply Array.ext_getElem?
  intro j
  by_cases hj : j < n
  · rw [mkR_get n _ j hj]
    rcases Nat.mod_two_eq_zero_or_one j with e | e <;> simp [madeCells, hj, e, zE]
  · rw [Array.getElem?_eq_none (by simp [madeCells]; omega), Array.getElem?_eq_none (by simp [mkR]; omega)]
theorem makeE (n : Nat) (hn : n ≤ 1048577) (w : World) :
    Sem.run Tryf.prog (Instr.makeSlice 27 (.int .i64 n) (.int .i64 n)) w = .ok (.slice (some ⟨w.heap.size, 0, none⟩) n n) (w.alloc (.cells (mkR (n * 2) zE) 62)) := by
  obtain ⟨i, h1, h2, h3, h4⟩ := info_parts i62
  have h := run_make (P := Tryf.prog) w 27 62 i _ Tryf.underlying27 h1 h2 .i64 .i64 n n (by omega) (Int.le_refl _) (by rw [h4]; omega) (by omega)
  rw [h3] at h
  simp only [Int.toNat_natCast, Value.cells] at h
  rw [← madeE]
  exact h

set_option maxRecDepth 20000 in
set_option maxHeartbeats 16000000 in
theorem zz9_any (z : Zv) (n : Nat) (w : World) (hn : n ≤ 1048576) (h1 : RdS w z.hp n (fun j => .string (z.Hs j))) (h2 : RdS w z.cp n (fun j => .int .u64 (z.Cs j : Nat))) :
    Calls Tryf.prog 9 #[.string z.host, .slice z.hp n z.hc, .slice z.cp n z.cc, .string z.text, .int .i64 z.line, .string z.file, .string z.exec] w fun e w' => Below w.heap.size w w' ∧ ∃ eb, e = .returned (.agg #[.string z.host, .slice (some ⟨eb, 0, none⟩) n n, .string z.text, .int .i64 z.line, .string z.file, .string z.exec]) ∧ w.heap.size ≤ eb ∧ ∃ f, Row w' eb (n * 2) 62 f ∧ ∀ j, j < n → f (j * 2) = .string (z.Hs j) ∧ f (j * 2 + 1) = .int .u64 (z.Cs j : Nat) := by
  have HA : Hid (RdS w z.hp n (fun j => .string (z.Hs j)) ∧ RdS w z.cp n (fun j => .int .u64 (z.Cs j : Nat))) := ⟨h1, h2⟩
  have hmk := makeE n (by omega) (w.alloc (Obj.cells #[.string ⟨#[]⟩, .slice none 0 0, .string ⟨#[]⟩, .int .i64 0, .string ⟨#[]⟩, .string ⟨#[]⟩] 31))
  obtain ⟨host, hp, hn', hc, Hs, cp, cn, cc, Cs, text, line, file, exec⟩ := z
  simp only at HA ⊢
  clear h1 h2
  go_enter Tryf.func9, Tryf.ntmps9
  go_wp2_with fail
  obtain ⟨W1, hW1⟩ : ∃ W1, (w.alloc (Obj.cells #[.string ⟨#[]⟩, .slice none 0 0, .string ⟨#[]⟩, .int .i64 0, .string ⟨#[]⟩, .string ⟨#[]⟩] 31)).alloc (Obj.cells (mkR (n * 2) zE) 62) = W1 := ⟨_, rfl⟩
  have HS : Hid (Below w.heap.size w W1 ∧ W1.heap[w.heap.size]? = some (.cells #[.string ⟨#[]⟩, .slice none 0 0, .string ⟨#[]⟩, .int .i64 0, .string ⟨#[]⟩, .string ⟨#[]⟩] 31 (0, 0)) ∧ Row W1 (w.heap.size + 1) (n * 2) 62 zE) := by
    rw [← hW1]
    refine ⟨((Below.refl _ w).alloc (Nat.le_refl _) _).alloc (by simp) _, alloc_blk (heap_alloc_new w _) _, ?_⟩
    unfold Row
    rw [show w.heap.size + 1 = (w.alloc (Obj.cells #[.string ⟨#[]⟩, .slice none 0 0, .string ⟨#[]⟩, .int .i64 0, .string ⟨#[]⟩, .string ⟨#[]⟩] 31)).heap.size by simp]
    exact heap_alloc_new _ _
  rw [hW1]
  clear hW1 hmk
  go_loopg [22] n (fun k s22 wr => ∃ p : Nat, s22 = .int .i64 (p : Int) ∧ p ≤ n ∧ n - p ≤ k ∧ Hid (Below w.heap.size w wr ∧ wr.heap[w.heap.size]? = some (.cells #[.string ⟨#[]⟩, .slice none 0 0, .string ⟨#[]⟩, .int .i64 0, .string ⟨#[]⟩, .string ⟨#[]⟩] 31 (0, 0)) ∧ ∃ f, Row wr (w.heap.size + 1) (n * 2) 62 f ∧ ∀ j, j < p → f (j * 2) = .string (Hs j) ∧ f (j * 2 + 1) = .int .u64 (Cs j : Nat)))
  case atStart => exact ⟨0, rfl, by omega, by omega, HS.out.1, HS.out.2.1, zE, HS.out.2.2, fun j hj => absurd hj (Nat.not_lt_zero _)⟩
  case round =>
    obtain ⟨p, rfl, g1, g2, hR⟩ := hrel
    obtain ⟨r1, r2, f, r3, r4⟩ := hR.out
    by_cases hlt : p < n
    · obtain ⟨b, o, rfl, c1⟩ := HA.out.1 p hlt
      obtain ⟨b', o', rfl, c2⟩ := HA.out.2 p hlt
      have hb1 := World.block_lt_of_cell? _ _ c1
      have hb2 := World.block_lt_of_cell? _ _ c2
      replace c1 := kc r1 c1
      replace c2 := kc r1 c2
      have y1 := r3.cell (p * 2) (by omega)
      have y2 := r3.cell (p * 2 + 1) (by omega)
      have y3 := r3.free (p * 2)
      have y4 := r3.free (p * 2 + 1)
      have HR : Hid (Below w.heap.size w wr ∧ wr.heap[w.heap.size]? = some (.cells #[.string ⟨#[]⟩, .slice none 0 0, .string ⟨#[]⟩, .int .i64 0, .string ⟨#[]⟩, .string ⟨#[]⟩] 31 (0, 0)) ∧ Row wr (w.heap.size + 1) (n * 2) 62 f ∧ ∀ j, j < p → f (j * 2) = .string (Hs j) ∧ f (j * 2 + 1) = .int .u64 (Cs j : Nat)) := ⟨r1, r2, r3, r4⟩
      have n1 : b ≠ w.heap.size + 1 := by simp at hb1; omega
      have n2 : b' ≠ w.heap.size + 1 := by simp at hb2; omega
      clear hR r1 r2 r3 r4 hb1 hb2
      have i3 : (p : Int) < (n : Int) := by omega
      go_wp2_with fail
      go_region_held3 (fun w' => w'.cell? ⟨b, o + p, none⟩ = some (.string (Hs p)) ∧ w'.cell? ⟨b', o' + p, none⟩ = some (.int .u64 (Cs p : Nat))) (first | exact ⟨c1, c2⟩ | exact ⟨cell_other (cell_other c1 _ n1) _ n1, cell_other (cell_other c2 _ n2) _ n2⟩ | go_keep) (fail)
      obtain ⟨W4, hW4⟩ : ∃ W4, ((wr.setCell ⟨w.heap.size + 1, p * 2, none⟩ (Value.string (Hs p))).setCell ⟨w.heap.size + 1, p * 2 + 1, none⟩ (Value.int IntKind.u64 (Cs p : Nat))).drew = W4 := ⟨_, rfl⟩
      have HE : Hid (Below w.heap.size w W4 ∧ W4.heap[w.heap.size]? = some (.cells #[.string ⟨#[]⟩, .slice none 0 0, .string ⟨#[]⟩, .int .i64 0, .string ⟨#[]⟩, .string ⟨#[]⟩] 31 (0, 0)) ∧ ∃ f, Row W4 (w.heap.size + 1) (n * 2) 62 f ∧ ∀ j, j < p + 1 → f (j * 2) = .string (Hs j) ∧ f (j * 2 + 1) = .int .u64 (Cs j : Nat)) := by
        obtain ⟨r1, r2, r3, r4⟩ := HR.out
        rw [← hW4]
        refine ⟨((r1.setCell (p := ⟨w.heap.size + 1, p * 2, none⟩) (by simp) _).setCell (p := ⟨w.heap.size + 1, p * 2 + 1, none⟩) (by simp) _).drew, ?_, _, (r3.set (p * 2) (.string (Hs p))).set (p * 2 + 1) (.int .u64 (Cs p : Nat)), fun j hj => ?_⟩
        · show ((wr.setCell _ _).setCell _ _).heap[w.heap.size]? = _
          rw [Below.heap_setCell _ _ _ _ (by simp), Below.heap_setCell _ _ _ _ (by simp)]
          exact r2
        · by_cases hjp : j = p
          · subst hjp
            exact ⟨by rw [upd_other _ _ _ _ (by omega), upd_same], by rw [upd_same]⟩
          · obtain ⟨t1, t2⟩ := r4 j (by omega)
            exact ⟨by rw [upd_other _ _ _ _ (by omega), upd_other _ _ _ _ (by omega), t1], by rw [upd_other _ _ _ _ (by omega), upd_other _ _ _ _ (by omega), t2]⟩
      rw [hW4]
      clear hW4 HR c1 c2 y1 y2 y3 y4
      go_wp2_with fail
      go_roundg (n - (p + 1))
      case measure => omega
      case rel => exact ⟨p + 1, by rw [show (p : Int) + 1 = ((p + 1 : Nat) : Int) by omega], by omega, Nat.le_refl _, HE⟩
    · obtain rfl : p = n := by omega
      have d0 := cell_blk r2 0
      have d1 := cell_blk r2 1
      have d2 := cell_blk r2 2
      have d3 := cell_blk r2 3
      have d4 := cell_blk r2 4
      have d5 := cell_blk r2 5
      have e0 := free_blk r2 0
      have e1 := free_blk r2 1
      have e2 := free_blk r2 2
      have e3 := free_blk r2 3
      have e4 := free_blk r2 4
      have e5 := free_blk r2 5
      simp at d0 d1 d2 d3 d4 d5
      have HR : Hid (Below w.heap.size w wr ∧ wr.heap[w.heap.size]? = some (.cells #[.string ⟨#[]⟩, .slice none 0 0, .string ⟨#[]⟩, .int .i64 0, .string ⟨#[]⟩, .string ⟨#[]⟩] 31 (0, 0)) ∧ Row wr (w.heap.size + 1) (p * 2) 62 f ∧ ∀ j, j < p → f (j * 2) = .string (Hs j) ∧ f (j * 2 + 1) = .int .u64 (Cs j : Nat)) := ⟨r1, r2, r3, r4⟩
      clear hR r1 r2 r3 r4
      go_wp2_with fail
      obtain ⟨r1, r2, r3, r4⟩ := HR.out
      have hr : ((((((wr.setCell ⟨w.heap.size, 0, none⟩ (.string host)).setCell ⟨w.heap.size, 1, none⟩ (.slice (some ⟨w.heap.size + 1, 0, none⟩) p p)).setCell ⟨w.heap.size, 2, none⟩ (.string text)).setCell ⟨w.heap.size, 3, none⟩ (.int .i64 line)).setCell ⟨w.heap.size, 4, none⟩ (.string file)).setCell ⟨w.heap.size, 5, none⟩ (.string exec)).heap[w.heap.size]? = some (.cells #[.string host, .slice (some ⟨w.heap.size + 1, 0, none⟩) p p, .string text, .int .i64 line, .string file, .string exec] 31 (0, 0)) := set_blk _ _ _ _ _ _ (set_blk _ _ _ _ _ _ (set_blk _ _ _ _ _ _ (set_blk _ _ _ _ _ _ (set_blk _ _ _ _ _ _ (set_blk _ _ _ _ _ _ r2)))))
      refine bodyPost_ret (results_cell_row rfl _ _ w.heap.size 31 _ (0, 0) _ rfl hr Tryf.underlying31 rfl (by kernel_rfl)) rfl ?_
      refine ⟨?_, w.heap.size + 1, rfl, by omega, f, ?_, r4⟩
      · exact ((((((r1.setCell (p := ⟨w.heap.size, 0, none⟩) (by simp) _).setCell (p := ⟨w.heap.size, 1, none⟩) (by simp) _).setCell (p := ⟨w.heap.size, 2, none⟩) (by simp) _).setCell (p := ⟨w.heap.size, 3, none⟩) (by simp) _).setCell (p := ⟨w.heap.size, 4, none⟩) (by simp) _).setCell (p := ⟨w.heap.size, 5, none⟩) (by simp) _)
      · exact (((((r3.other (a := ⟨w.heap.size, 0, none⟩) _ (by simp)).other (a := ⟨w.heap.size, 1, none⟩) _ (by simp)).other (a := ⟨w.heap.size, 2, none⟩) _ (by simp)).other (a := ⟨w.heap.size, 3, none⟩) _ (by simp)).other (a := ⟨w.heap.size, 4, none⟩) _ (by simp)).other (a := ⟨w.heap.size, 5, none⟩) _ (by simp)

set_option maxRecDepth 20000 in
set_option maxHeartbeats 4000000 in
theorem zz7_any (z : Zv) (n : Nat) (w : World) (hn : n ≤ 1048576) (h1 : RdS w z.hp n (fun j => .string (z.Hs j))) (h2 : RdS w z.cp n (fun j => .int .u64 (z.Cs j : Nat))) :
    Calls Tryf.prog 7 #[.agg #[.string z.host, .slice z.hp n z.hc, .slice z.cp n z.cc, .string z.text, .int .i64 z.line, .string z.file, .string z.exec]] w fun e w' => Below w.heap.size w w' ∧ ∃ eb, e = .returned (.agg #[.string z.host, .slice (some ⟨eb, 0, none⟩) n n, .string z.text, .int .i64 z.line, .string z.file, .string z.exec]) ∧ w.heap.size ≤ eb ∧ ∃ f, Row w' eb (n * 2) 62 f ∧ ∀ j, j < n → f (j * 2) = .string (z.Hs j) ∧ f (j * 2 + 1) = .int .u64 (z.Cs j : Nat) := by
  obtain ⟨W1, hW1⟩ : ∃ W1, (w.alloc (Obj.cells #[.string z.host, .slice z.hp n z.hc, .slice z.cp n z.cc, .string z.text, .int .i64 z.line, .string z.file, .string z.exec] 36)).alloc (Obj.cells #[.string ⟨#[]⟩, .slice none 0 0, .string ⟨#[]⟩, .int .i64 0, .string ⟨#[]⟩, .string ⟨#[]⟩] 31) = W1 := ⟨_, rfl⟩
  have b1 : Below w.heap.size w W1 := by rw [← hW1]; exact ((Below.refl _ w).alloc (Nat.le_refl _) _).alloc (by simp) _
  have k1 : W1.heap[w.heap.size + 1]? = some (.cells #[.string ⟨#[]⟩, .slice none 0 0, .string ⟨#[]⟩, .int .i64 0, .string ⟨#[]⟩, .string ⟨#[]⟩] 31 (0, 0)) := by
    rw [← hW1, show w.heap.size + 1 = (w.alloc (Obj.cells #[.string z.host, .slice z.hp n z.hc, .slice z.cp n z.cc, .string z.text, .int .i64 z.line, .string z.file, .string z.exec] 36)).heap.size by simp]
    exact heap_alloc_new _ _
  have k0 : W1.heap[w.heap.size]? = some (.cells #[.string z.host, .slice z.hp n z.hc, .slice z.cp n z.cc, .string z.text, .int .i64 z.line, .string z.file, .string z.exec] 36 (0, 0)) := by rw [← hW1]; exact alloc_blk (heap_alloc_new w _) _
  have q0 := cell_blk k0 0
  have q1 := cell_blk k0 1
  have q2 := cell_blk k0 2
  have q3 := cell_blk k0 3
  have q4 := cell_blk k0 4
  have q5 := cell_blk k0 5
  have q6 := cell_blk k0 6
  simp at q0 q1 q2 q3 q4 q5 q6
  have H9 : Hid (Calls Tryf.prog 9 #[.string z.host, .slice z.hp n z.hc, .slice z.cp n z.cc, .string z.text, .int .i64 z.line, .string z.file, .string z.exec] W1 fun e w' => ∃ eb, e = .returned (.agg #[.string z.host, .slice (some ⟨eb, 0, none⟩) n n, .string z.text, .int .i64 z.line, .string z.file, .string z.exec]) ∧ Hid (Below w.heap.size w w' ∧ w.heap.size + 2 ≤ eb ∧ ∃ f, Row w' eb (n * 2) 62 f ∧ ∀ j, j < n → f (j * 2) = .string (z.Hs j) ∧ f (j * 2 + 1) = .int .u64 (z.Cs j : Nat)) ∧ w'.heap[w.heap.size + 1]? = some (.cells #[.string ⟨#[]⟩, .slice none 0 0, .string ⟨#[]⟩, .int .i64 0, .string ⟨#[]⟩, .string ⟨#[]⟩] 31 (0, 0))) := by
    refine (zz9_any z n W1 hn (h1.below b1) (h2.below b1)).mono ?_
    rintro e w' ⟨g1, eb, rfl, g2, g3⟩
    have z1 : W1.heap.size = w.heap.size + 2 := by rw [← hW1]; simp
    exact ⟨eb, rfl, ⟨b1.trans (g1.mono b1.size), by omega, g3⟩, (g1.block _ (blk_lt k1)).trans k1⟩
  obtain ⟨host, hp, hn', hc, Hs, cp, cn, cc, Cs, text, line, file, exec⟩ := z
  simp only at hW1 H9 q0 q1 q2 q3 q4 q5 q6 ⊢
  clear h1 h2 b1 k1 k0
  go_enter Tryf.func7, Tryf.ntmps7
  go_upto_region 1 with fail
  clear hW1
  go_wp2_with (go_at_call 9; refine H9.out.mono ?_; rintro e W2 ⟨eb, rfl, HW2, r2⟩; have d0 := cell_blk r2 0; have d1 := cell_blk r2 1; have d2 := cell_blk r2 2; have d3 := cell_blk r2 3; have d4 := cell_blk r2 4; have d5 := cell_blk r2 5; have e0 := free_blk r2 0; have e1 := free_blk r2 1; have e2 := free_blk r2 2; have e3 := free_blk r2 3; have e4 := free_blk r2 4; have e5 := free_blk r2 5; simp at d0 d1 d2 d3 d4 d5)
  obtain ⟨r1, r3, f, r4, r5⟩ := HW2.out
  have hr : ((((((W2.setCell ⟨w.heap.size + 1, 0, none⟩ (.string host)).setCell ⟨w.heap.size + 1, 1, none⟩ (.slice (some ⟨eb, 0, none⟩) n n)).setCell ⟨w.heap.size + 1, 2, none⟩ (.string text)).setCell ⟨w.heap.size + 1, 3, none⟩ (.int .i64 line)).setCell ⟨w.heap.size + 1, 4, none⟩ (.string file)).setCell ⟨w.heap.size + 1, 5, none⟩ (.string exec)).heap[w.heap.size + 1]? = some (.cells #[.string host, .slice (some ⟨eb, 0, none⟩) n n, .string text, .int .i64 line, .string file, .string exec] 31 (0, 0)) := set_blk _ _ _ _ _ _ (set_blk _ _ _ _ _ _ (set_blk _ _ _ _ _ _ (set_blk _ _ _ _ _ _ (set_blk _ _ _ _ _ _ (set_blk _ _ _ _ _ _ r2)))))
  refine bodyPost_ret (results_cell_row rfl _ _ (w.heap.size + 1) 31 _ (0, 0) _ rfl hr Tryf.underlying31 rfl (by kernel_rfl)) rfl ?_
  refine ⟨?_, eb, rfl, by omega, f, ?_, r5⟩
  · exact ((((((r1.setCell (p := ⟨w.heap.size + 1, 0, none⟩) (by simp) _).setCell (p := ⟨w.heap.size + 1, 1, none⟩) (by simp) _).setCell (p := ⟨w.heap.size + 1, 2, none⟩) (by simp) _).setCell (p := ⟨w.heap.size + 1, 3, none⟩) (by simp) _).setCell (p := ⟨w.heap.size + 1, 4, none⟩) (by simp) _).setCell (p := ⟨w.heap.size + 1, 5, none⟩) (by simp) _)
  · exact (((((r4.other (a := ⟨w.heap.size + 1, 0, none⟩) _ (by simp; omega)).other (a := ⟨w.heap.size + 1, 1, none⟩) _ (by simp; omega)).other (a := ⟨w.heap.size + 1, 2, none⟩) _ (by simp; omega)).other (a := ⟨w.heap.size + 1, 3, none⟩) _ (by simp; omega)).other (a := ⟨w.heap.size + 1, 4, none⟩) _ (by simp; omega)).other (a := ⟨w.heap.size + 1, 5, none⟩) _ (by simp; omega)
end Go.Proofs.Qxb6613595aFmt
