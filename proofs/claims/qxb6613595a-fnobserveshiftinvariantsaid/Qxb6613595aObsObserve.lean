import Derived.Test.Qxb6613595aObsSt
import Derived.Deep.QuietTactic
import Derived.StillTailTactics
namespace Go.Proofs.Qxb6613595a
open Go.RowKit Go.MuLone

/-- what clock i reads -/
def want (sr of cl : Nat → Int) : Nat → Int := fun i => rdg (sr i) (of i) (cl i)
/-- what the report's Epsilon becomes -/
def epsV (now period eps : Int) (n : Nat) (f : Nat → Int) : Int :=
  if now < 2 * period then eps else if eps < hi f (n - 1) - lo f (n - 1) then hi f (n - 1) - lo f (n - 1) else eps

theorem Upd.of_drew {b : Nat} {o : Obj} {w w' : World} (h : Upd b o w.drew w') : Upd b o w w' := ⟨h.os, h.tape, h.output, h.size, h.block, h.own⟩

theorem after_read {w w1 : World} {B n k : Nat} {now period eps back : Int} {sr of cl la re : Nat → Int} {o : Obj} (h : St w B n now period eps back sr of cl la re) (hk : k < n) (hu : Upd (B + 5 + 2 * k) o w w1) :
    w1.cell? ⟨B, 17, none⟩ = some (.slice (some ⟨B + 3, 0, none⟩) n n) ∧ w1.cell? ⟨B, 16, none⟩ = some (.slice (some ⟨B + 2, 0, none⟩) n n) ∧
    w1.cell? ⟨B + 3, k, none⟩ = some (.int .i64 (re k)) ∧ w1.frozen? ⟨B + 3, k, none⟩ = false ∧ w1.cell? ⟨B + 2, k, none⟩ = some (.int .i64 (la k)) ∧ w1.frozen? ⟨B + 2, k, none⟩ = false := by
  have b0 := (hu.block B (by omega)).trans h.sim
  have b2 := (hu.block (B + 2) (by omega)).trans h.last
  have b3 := (hu.block (B + 3) (by omega)).trans h.reads
  exact ⟨cell_blk b0 17, cell_blk b0 16, (cell_blk b3 k).trans (row_get n re k hk), free_blk b3 k, (cell_blk b2 k).trans (row_get n la k hk), free_blk b2 k⟩

theorem st_done {w : World} {B n : Nat} {now period eps back : Int} {sr of cl la re W : Nat → Int} (h : St w B n now period eps back sr of (mixf n W cl) (mixf n W la) (mixf n W re)) :
    St w B n now period eps back sr of W W W := by
  have e : ∀ (g : Nat → Int) (i : Nat), i < n → mixf n W g i = W i := fun g i hi => by simp [mixf, hi]
  refine ⟨h.sim, h.ptr, ?_, ?_, h.var, fun i hi => ?_⟩
  · rw [h.last, row_congr n _ W (e la)]
  · rw [h.reads, row_congr n _ W (e re)]
  · rw [h.clk i hi, e cl i hi]

theorem st_eps {w : World} {B n : Nat} {now period eps back : Int} {sr of cl la re : Nat → Int} (h : St w B n now period eps back sr of cl la re) (e : Int) :
    St (w.setCell ⟨B, 19, none⟩ (.int .i64 e)) B n now period e back sr of cl la re := by
  have o : ∀ j, j ≠ B → (w.setCell ⟨B, 19, none⟩ (.int .i64 e)).heap[j]? = w.heap[j]? := fun j hj => Below.heap_setCell _ _ _ _ hj
  refine ⟨?_, ?_, ?_, ?_, fun i hi => ?_, fun i hi => ?_⟩
  · rw [setCell_own _ B 19 _ 51 _ h.sim]; rfl
  · rw [o _ (by omega)]; exact h.ptr
  · rw [o _ (by omega)]; exact h.last
  · rw [o _ (by omega)]; exact h.reads
  · rw [o _ (by omega)]; exact h.var i hi
  · rw [o _ (by omega)]; exact h.clk i hi
theorem St.of_heap {w w' : World} {B n : Nat} {now period eps back : Int} {sr of cl la re : Nat → Int} (h : St w B n now period eps back sr of cl la re) (e : w'.heap = w.heap) : St w' B n now period eps back sr of cl la re :=
  ⟨by rw [e]; exact h.sim, by rw [e]; exact h.ptr, by rw [e]; exact h.last, by rw [e]; exact h.reads, fun i hi => by rw [e]; exact h.var i hi, fun i hi => by rw [e]; exact h.clk i hi⟩
theorem Out.drewN {lo hi : Nat} {a b : World} (h : Out lo hi a b) (n : Nat) : Out lo hi a (b.drewN n) := ⟨h.os, h.tape, h.output, h.size, h.block⟩

theorem lat_bd (t d : Int) (h0 : 0 ≤ t) (h2 : 0 ≤ d) : 0 ≤ lat t d ∧ lat t d ≤ mx := by unfold lat mx; split <;> omega
theorem rdg_bd (t d l : Int) (h0 : 0 ≤ t) (h2 : 0 ≤ d) (h3 : 0 ≤ l) (h4 : l ≤ mx) : 0 ≤ rdg t d l ∧ rdg t d l ≤ mx := by
  have := lat_bd t d h0 h2
  unfold rdg; split <;> omega

/-- 'wp_region_still_tail', the draw under its name. -/
theorem still_tail {P : Program} {id : Nat} {Q : Exit → Act → World → Prop} {a : Act} {w : World} {l : List Oper} (n : Nat) (hm : P.follows .mixedOrders = true) (hB : Region.lexTailB .any l.toArray n = true)
    (h : wpStill P l.toArray w.drew (fun a' => wpList P l.toArray Q (l.drop n) a' w.drew) (l.take n) a) : (Code.region id l.toArray true).wp P Q a w :=
  wp_region_still_tail n hm hB h

theorem wrap_in (n : Int) (h1 : -9223372036854775808 ≤ n) (h2 : n ≤ 9223372036854775807) : IntKind.i64.wrap n = n := by rw [IntKind.wrap_i64]; omega

theorem rdg_ge (t d l : Int) : l ≤ rdg t d l := by unfold rdg; split <;> omega

set_option maxHeartbeats 1000000 in
theorem observe_any (B n : Nat) (now period eps back : Int) (sr of cl la re : Nat → Int) (w : World) (h0 : 0 < n) (hn : n ≤ 4096)
    (hsr : ∀ i, i < n → 0 ≤ sr i ∧ sr i ≤ mx) (hof : ∀ i, i < n → 0 ≤ of i ∧ of i ≤ mx) (hcl : ∀ i, i < n → 0 ≤ cl i ∧ cl i ≤ mx) (hla : ∀ i, i < n → la i ≤ cl i)
    (hp0 : 0 ≤ period) (hp1 : period < 4611686018427387904)
    (hs : St w B n now period eps back sr of cl la re) :
    Calls Try.prog 19 #[.pointer (some ⟨B, 0, none⟩)] w fun e w' => e = .returned (.slice (some ⟨B + 3, 0, none⟩) n n) ∧
      St w' B n now period (epsV now period eps n (want sr of cl)) back sr of (want sr of cl) (want sr of cl) (want sr of cl) ∧ Out B (B + 4 + 2 * n) w w' := by
  have c15 : w.cell? ⟨B, 15, none⟩ = some (.slice (some ⟨B + 1, 0, none⟩) n n) := cell_blk hs.sim 15
  go_enter Try.func19, Try.ntmps19
  go_wp2
  go_loopw [10] (fun i wr => ∃ k : Nat, k ≤ n ∧ i = .int .i64 k ∧ St wr B n now period eps back sr of (mixf k (want sr of cl) cl) (mixf k (want sr of cl) la) (mixf k (want sr of cl) re) ∧ Out B (B + 4 + 2 * n) w wr)
    (fun i _ => n - (intOf i).toNat)
  case atStart => exact ⟨0, Nat.zero_le _, rfl, by simpa only [mixf_zero] using hs, Out.refl _ _ _⟩
  case round =>
    obtain ⟨k, hk, rfl, hst, hout⟩ := hrel
    by_cases hlt : k < n
    · have cp : wr.cell? ⟨B + 1, k, none⟩ = some (.pointer (some ⟨B + 5 + 2 * k, 0, none⟩)) := (cell_blk hst.ptr k).trans (ptrs_get B n k hlt)
      have c17 : wr.cell? ⟨B, 17, none⟩ = some (.slice (some ⟨B + 3, 0, none⟩) n n) := cell_blk hst.sim 17
      clear c15
      go_wp2
      have t1 := hsr k hlt
      have t2 := hof k hlt
      have hc := hst.clk k hlt
      rw [mixf_at] at hc
      go_region_with (go_at_call 20; refine (read_blk (B + 5 + 2 * k) (B + 4 + 2 * k) (sr k) (of k) (cl k) _ t1.1 t1.2 t2.1 t2.2 (by exact hc) (by exact hst.var k hlt)).mono ?_; rintro e w1 ⟨rfl, hu⟩; obtain ⟨g17, g16, g3, f3, g2, f2⟩ := after_read hst hlt (by first | exact hu | exact hu.of_drew))
      all_goals
        have hge := rdg_ge (sr k) (of k) (cl k)
        have hla' := hla k hlt
        rw [mixf_at] at g2
        have hst' := st_step (r := want sr of cl k) hst hlt hu.of_drew
        rw [mixf_upd, mixf_upd, mixf_upd] at hst'
        have hout' := ((hout.trans (hu.of_drew.out (lo := B) (hi := B + 4 + 2 * n) (by omega) (by omega))).setCell (p := ⟨B + 3, k, none⟩) (.int .i64 (want sr of cl k)) (by simp) (by simp; omega)).setCell (p := ⟨B + 2, k, none⟩) (.int .i64 (want sr of cl k)) (by simp) (by simp; omega)
        have HS : Hid _ := hst'
        have HO : Hid _ := hout'
        clear hst' hout' hst hout hu c17 cp hc t1 t2
        go_wp2_with fail
        refine (note_any B n k _ (la k) _ hlt (by omega) ?_ ?_ ?_).mono ?_
        · rw [World.cell?_setCell_other _ ⟨B + 3, k, none⟩ ⟨B, 16, none⟩ _ (by simp)]; exact g16
        · rw [World.cell?_setCell_other _ ⟨B + 3, k, none⟩ ⟨B + 2, k, none⟩ _ (by simp)]; exact g2
        · simpa using f2
        rintro e w2 ⟨rfl, rfl⟩
        go_wp2
        go_roundw
        case rel => exact ⟨k + 1, hlt, by go_num, HS.out, HO.out⟩
        case measure => simp [intOf]; omega
    · obtain rfl : k = n := by omega
      have hst' := st_done hst
      clear hst
      have c9 : wr.cell? ⟨B, 9, none⟩ = some (.int .i64 now) := cell_blk hst'.sim 9
      have c2 : wr.cell? ⟨B, 2, none⟩ = some (.int .i64 period) := cell_blk hst'.sim 2
      have c17 : wr.cell? ⟨B, 17, none⟩ = some (.slice (some ⟨B + 3, 0, none⟩) k k) := cell_blk hst'.sim 17
      clear c15
      by_cases hnp : now < 2 * period
      · have e : epsV now period eps k (want sr of cl) = eps := by simp [epsV, hnp]
        have HS : Hid (St wr B k now period (epsV now period eps k (want sr of cl)) back sr of (want sr of cl) (want sr of cl) (want sr of cl)) := by rw [e]; exact hst'
        have HO : Hid _ := hout
        clear hst' hout e
        go_wp2_with fail
        go_quiet (fail)
        go_wp2
        go_ret
        exact ⟨rfl, HS.out.of_heap rfl, HO.out.drewN _⟩
      · have hb : ∀ i, i < k → 0 ≤ want sr of cl i ∧ want sr of cl i ≤ mx := fun i hi => rdg_bd _ _ _ (hsr i hi).1 (hof i hi).1 (hcl i hi).1 (hcl i hi).2
        obtain ⟨i1, hi1, e1⟩ := hi_mem (want sr of cl) (k - 1)
        obtain ⟨i2, hi2, e2⟩ := lo_mem (want sr of cl) (k - 1)
        have l1 := hi_ge (want sr of cl) (k - 1) i2 (by omega)
        have b1 := hb i1 (by omega)
        have b2 := hb i2 (by omega)
        have d1 : 0 ≤ lo (want sr of cl) (k - 1) := by rw [e2]; exact b2.1
        have d2 : lo (want sr of cl) (k - 1) ≤ hi (want sr of cl) (k - 1) := by rw [e2]; exact l1
        have d3 : hi (want sr of cl) (k - 1) ≤ 9223372036854775807 := by rw [e1]; exact b1.2
        have e : epsV now period eps k (want sr of cl) = if eps < hi (want sr of cl) (k - 1) - lo (want sr of cl) (k - 1) then hi (want sr of cl) (k - 1) - lo (want sr of cl) (k - 1) else eps := by simp only [epsV, hnp, if_false]
        have c19 : wr.cell? ⟨B, 19, none⟩ = some (.int .i64 eps) := cell_blk hst'.sim 19
        have f19 : wr.frozen? ⟨B, 19, none⟩ = false := free_blk hst'.sim 19
        have hrow : ∀ i, i < k → wr.cell? ⟨B + 3, i, none⟩ = some (.int .i64 (want sr of cl i)) := fun i hi => (cell_blk hst'.reads i).trans (row_get k _ i hi)
        have HS : Hid _ := st_eps hst' (epsV now period eps k (want sr of cl))
        have HO : Hid _ := hout.setCell (p := ⟨B, 19, none⟩) (.int .i64 (epsV now period eps k (want sr of cl))) (by simp) (by simp; omega)
        rw [e] at HS HO
        have HE : Hid _ := e
        have HM : Hid (∀ W : World, W.heap = wr.heap → Calls Try.prog 22 #[.slice (some ⟨B + 3, 0, none⟩) k k] W fun e w' => e = .returned (.int .i64 (hi (want sr of cl) (k - 1))) ∧ w' = W) := fun W hW => max_any (B + 3) k (want sr of cl) W h0 hn (fun i hi => by unfold World.cell?; rw [hW]; exact hrow i hi)
        have HN : Hid (∀ W : World, W.heap = wr.heap → Calls Try.prog 23 #[.slice (some ⟨B + 3, 0, none⟩) k k] W fun e w' => e = .returned (.int .i64 (lo (want sr of cl) (k - 1))) ∧ w' = W) := fun W hW => min_any (B + 3) k (want sr of cl) W h0 hn (fun i hi => by unfold World.cell?; rw [hW]; exact hrow i hi)
        clear hst' hout e hb e1 e2 l1 b1 b2 hi1 hi2 hrow hsr hof hla hcl
        generalize hi (want sr of cl) (k - 1) = mh at *
        generalize lo (want sr of cl) (k - 1) = ml at *
        have hwr := wrap_in (mh - ml) (by omega) (by omega)
        by_cases hem : eps < mh - ml
        · rw [if_pos hem] at HS HO HE
          go_wp2_with fail
          go_quiet (fail)
          go_wp2
          refine still_tail 18 (by kernel_rfl) (by kernel_rfl) ?_
          simp only [List.take_succ_cons, List.take_zero, List.drop_succ_cons, List.drop_zero]
          repeat still_step
          still_call (HM.out _ rfl)
          repeat still_step
          still_call (HN.out _ rfl)
          repeat still_step
          refine wpStill_nil ?_
          go_wp2
          go_ret
          refine ⟨rfl, ?_, HO.out.drewN (nq + 1)⟩
          rw [HE.out]
          exact HS.out.of_heap rfl
        · rw [if_neg hem] at HS HO HE
          go_wp2_with fail
          go_quiet (fail)
          go_wp2
          refine still_tail 18 (by kernel_rfl) (by kernel_rfl) ?_
          simp only [List.take_succ_cons, List.take_zero, List.drop_succ_cons, List.drop_zero]
          repeat still_step
          still_call (HM.out _ rfl)
          repeat still_step
          still_call (HN.out _ rfl)
          repeat still_step
          refine wpStill_nil ?_
          go_wp2
          go_ret
          refine ⟨rfl, ?_, HO.out.drewN (nq + 1)⟩
          rw [HE.out]
          exact HS.out.of_heap rfl
end Go.Proofs.Qxb6613595a
