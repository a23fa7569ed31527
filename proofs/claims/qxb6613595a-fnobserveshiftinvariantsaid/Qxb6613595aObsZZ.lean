import Derived.Test.Qxb6613595aObsObserve
import Derived.Deep.OwnRows
namespace Go.Proofs.Qxb6613595a
open Go.RowKit Go.MuLone

theorem info2 : (Try.prog.info? 2).map (fun i => (i.zero, i.size, i.bytes)) = some (some (.int .i64 0), 1, 8) := by kernel_rfl
theorem made_row (n : Nat) : madeCells #[.int .i64 0] n = row n (fun _ => 0) := by
  apply Array.ext'
  apply List.ext_getElem
  · simp [madeCells, row]
  · intro i h1 h2
    simp [madeCells, row, Nat.mod_one]
theorem make26 (n : Nat) (hn : n ≤ 4096) (w : World) : Sem.run Try.prog (Instr.makeSlice 26 (.int .i64 n) (.int .i64 n)) w = .ok (.slice (some ⟨w.heap.size, 0, none⟩) n n) (w.alloc (.cells (row n (fun _ => 0)) 2)) := by
  rw [← made_row]
  exact run_make_row' 26 2 (.int .i64 0) 8 Try.underlying26 info2 rfl .i64 .i64 n (by omega) (by omega) w

/-- wr is w with the one new block N = w.heap.size, a row of n numbers g. -/
structure Mk (N n : Nat) (w wr : World) (g : Nat → Int) : Prop where
  below : Below N w wr
  size : wr.heap.size = N + 1
  own : wr.heap[N]? = some (.cells (row n g) 2 (0, 0))

theorem Mk.init (n : Nat) (w : World) : Mk w.heap.size n w (w.alloc (.cells (row n (fun _ => 0)) 2)) (fun _ => 0) :=
  ⟨(Below.refl _ _).alloc (Nat.le_refl _) _, by simp, by show (w.heap.push _)[w.heap.size]? = _; simp⟩
theorem Mk.store {N n : Nat} {w wr : World} {g : Nat → Int} (h : Mk N n w wr g) (k : Nat) (v : Int) : Mk N n w (wr.setCell ⟨N, k, none⟩ (.int .i64 v)) (upd g k v) :=
  ⟨h.below.setCell (Nat.le_refl _) _, by simpa [World.setCell] using h.size, by rw [setCell_own _ N k _ 2 _ h.own, row_set]⟩
theorem Mk.drewN {N n : Nat} {w wr : World} {g : Nat → Int} (h : Mk N n w wr g) (j : Nat) : Mk N n w (wr.drewN j) g := ⟨⟨h.below.os, h.below.tape, h.below.output, h.below.size, h.below.block⟩, h.size, h.own⟩
theorem Mk.cell {N n : Nat} {w wr : World} {g : Nat → Int} (h : Mk N n w wr g) (k : Nat) (hk : k < n) : wr.cell? ⟨N, k, none⟩ = some (.int .i64 (g k)) := (cell_blk h.own k).trans (row_get n g k hk)
theorem Mk.free {N n : Nat} {w wr : World} {g : Nat → Int} (h : Mk N n w wr g) (k : Nat) : wr.frozen? ⟨N, k, none⟩ = false := free_blk h.own k
theorem Mk.congr {N n : Nat} {w wr : World} {f g : Nat → Int} (h : Mk N n w wr f) (e : ∀ i, i < n → f i = g i) : Mk N n w wr g := ⟨h.below, h.size, by rw [h.own, row_congr n f g e]⟩
theorem mixf_full (n : Nat) (f g : Nat → Int) (i : Nat) (h : i < n) : mixf n f g i = f i := by simp [mixf, h]
theorem blk_lt {w : World} {b : Nat} {o : Obj} (h : w.heap[b]? = some o) : b < w.heap.size := by
  by_cases hb : b < w.heap.size
  · exact hb
  · rw [Array.getElem?_eq_none (by omega)] at h; cases h

set_option maxHeartbeats 1000000 in
theorem zzlast_any (B n : Nat) (now period eps back : Int) (sr of cl la re : Nat → Int) (w : World) (hn : n ≤ 4096) (hs : St w B n now period eps back sr of cl la re) :
    Calls Try.prog 14 #[.pointer (some ⟨B, 0, none⟩)] w fun e w' => e = .returned (.slice (some ⟨w.heap.size, 0, none⟩) n n) ∧ Mk w.heap.size n w w' la := by
  have c16 : w.cell? ⟨B, 16, none⟩ = some (.slice (some ⟨B + 2, 0, none⟩) n n) := cell_blk hs.sim 16
  have hB := blk_lt hs.sim
  have hB2 := blk_lt hs.last
  have hmk := make26 n hn
  go_enter Try.func14, Try.ntmps14
  go_wp2
  clear hmk
  go_loopw [16] (fun i wr => ∃ k : Nat, k ≤ n ∧ i = .int .i64 k ∧ Mk w.heap.size n w wr (mixf k la (fun _ => 0))) (fun i _ => n - (intOf i).toNat)
  case atStart => exact ⟨0, Nat.zero_le _, rfl, by simpa only [mixf_zero] using Mk.init n w⟩
  case round =>
    obtain ⟨k, hk, rfl, hm⟩ := hrel
    by_cases hlt : k < n
    · have d1 := (hm.below.cell (p := ⟨B, 16, none⟩) hB).trans c16
      have d2 := (hm.below.cell (p := ⟨B + 2, k, none⟩) hB2).trans ((cell_blk hs.last k).trans (row_get n la k hlt))
      have d3 := hm.cell k hlt
      have d4 := hm.free k
      have HM : Hid _ := hm.store k (la k)
      rw [mixf_upd] at HM
      clear hm c16
      go_wp2
      go_roundw
      case rel => exact ⟨k + 1, hlt, by go_num, HM.out⟩
      case measure => simp [intOf]; omega
    · obtain rfl : k = n := by omega
      have HM : Hid _ := hm.congr (mixf_full k la _)
      clear hm c16
      go_wp2
      go_ret
      exact ⟨rfl, HM.out⟩

set_option maxHeartbeats 1000000 in
theorem report_any (B n : Nat) (now period eps back : Int) (sr of cl la re : Nat → Int) (w : World) (hs : St w B n now period eps back sr of cl la re) :
    Calls Try.prog 13 #[.pointer (some ⟨B, 0, none⟩)] w fun e w' => e = .returned (.tuple #[.int .i64 eps, .int .i64 back]) ∧ ∃ j, w' = w.drewN j := by
  have c19 : w.cell? ⟨B, 19, none⟩ = some (.int .i64 eps) := cell_blk hs.sim 19
  have c24 : w.cell? ⟨B, 24, none⟩ = some (.int .i64 back) := cell_blk hs.sim 24
  clear hs
  go_enter Try.func13, Try.ntmps13
  go_wp2
  go_quiet (fail)
  go_wp2
  go_ret2
  exact ⟨rfl, _, rfl⟩

set_option maxHeartbeats 1000000 in
theorem zzobserve_any (B n : Nat) (now period eps back : Int) (sr of cl la re : Nat → Int) (w : World) (h0 : 0 < n) (hn : n ≤ 4096)
    (hsr : ∀ i, i < n → 0 ≤ sr i ∧ sr i ≤ mx) (hof : ∀ i, i < n → 0 ≤ of i ∧ of i ≤ mx) (hcl : ∀ i, i < n → 0 ≤ cl i ∧ cl i ≤ mx) (hla : ∀ i, i < n → la i ≤ cl i)
    (hp0 : 0 ≤ period) (hp1 : period < 4611686018427387904)
    (hs : St w B n now period eps back sr of cl la re) :
    Calls Try.prog 12 #[.pointer (some ⟨B, 0, none⟩)] w fun e w' => e = .returned (.slice (some ⟨w.heap.size, 0, none⟩) n n) ∧
      ∃ w1, St w1 B n now period (epsV now period eps n (want sr of cl)) back sr of (want sr of cl) (want sr of cl) (want sr of cl) ∧ Out B (B + 4 + 2 * n) w w1 ∧ Mk w.heap.size n w1 w' (want sr of cl) := by
  have hB3 := blk_lt hs.reads
  have hmk := make26 n hn
  go_enter Try.func12, Try.ntmps12
  go_wp2_with fail
  refine (observe_any B n now period eps back sr of cl la re _ h0 hn hsr hof hcl hla hp0 hp1 hs).mono ?_
  rintro e w1 ⟨rfl, hs1, ho⟩
  have HZ : Hid _ := ho.size
  have HO : Hid _ := ho
  clear ho
  go_wp2
  clear hmk
  go_loopw [13] (fun i wr => ∃ k : Nat, k ≤ n ∧ i = .int .i64 k ∧ Mk w1.heap.size n w1 wr (mixf k (want sr of cl) (fun _ => 0))) (fun i _ => n - (intOf i).toNat)
  case atStart => exact ⟨0, Nat.zero_le _, rfl, by simpa only [mixf_zero] using Mk.init n w1⟩
  case round =>
    obtain ⟨k, hk, rfl, hm⟩ := hrel
    by_cases hlt : k < n
    · have d2 := (hm.below.cell (p := ⟨B + 3, k, none⟩) (by rw [HZ.out]; exact hB3)).trans ((cell_blk hs1.reads k).trans (row_get n _ k hlt))
      have d3 := hm.cell k hlt
      have d4 := hm.free k
      have HM : Hid _ := hm.store k (want sr of cl k)
      rw [mixf_upd] at HM
      clear hm hs hs1 hsr hof hcl hla
      go_wp2
      go_roundw
      case rel => exact ⟨k + 1, hlt, by go_num, HM.out⟩
      case measure => simp [intOf]; omega
    · obtain rfl : k = n := by omega
      have HM : Hid _ := hm.congr (mixf_full k _ _)
      have HS : Hid _ := hs1
      clear hm hs hs1 hsr hof hcl hla
      go_wp2
      go_ret
      refine ⟨congrArg (fun j => Ending.returned (Value.slice (some ⟨j, 0, none⟩) k k)) HZ.out, w1, HS.out, HO.out, ?_⟩
      rw [← HZ.out]
      exact HM.out
end Go.Proofs.Qxb6613595a
