import Derived.Test.Qxb6608761aEmSortS
namespace Go.Proofs.Qxb6608761a
open Go.RowKit

/-- what mergeSortSpans leaves -/
structure Ms (f : Nat → Nat) (y : Bool) (m : Nat) (S : Nat → Nat × Nat) (w w' : World) (b : Nat) (T : Nat → Nat × Nat) : Prop where
  below : Below w.heap.size w w'
  nb : w.heap.size ≤ b
  blk : w'.heap[b]? = some (.cells (rowS m T) 47 (0, 0))
  perm : (seg T 0 m).Perm (seg S 0 m)
  sorted : (seg T 0 m).Pairwise (fun x z => leS f y x z = true)

theorem Fits.perm {n m : Nat} {S T : Nat → Nat × Nat} (h : Fits n m S) (hp : (seg T 0 m).Perm (seg S 0 m)) : Fits n m T := fun i hi => by
  obtain ⟨j, _, hj, e⟩ := seg_mem (hp.mem_iff.1 (mem_seg (f := T) i (Nat.zero_le _) hi))
  rw [e]
  exact h j hj

theorem Two.fst {w wr : World} {m A B i : Nat} {TA TB : Nat → Nat × Nat} (h : Two w wr m A B TA TB) (hi : i < m) : wr.cell? ⟨A, i * 2, none⟩ = some (.int .i64 ((TA i).1 : Int)) := by
  rw [Nat.mul_comm]; exact (cell_blk h.a (2 * i)).trans (rowS_fst TA hi)
theorem Two.snd {w wr : World} {m A B i : Nat} {TA TB : Nat → Nat × Nat} (h : Two w wr m A B TA TB) (hi : i < m) : wr.cell? ⟨A, i * 2 + 1, none⟩ = some (.int .i64 ((TA i).2 : Int)) := by
  rw [Nat.mul_comm]; exact (cell_blk h.a (2 * i + 1)).trans (rowS_snd TA hi)
theorem Two.drew {w wr : World} {m A B : Nat} {TA TB : Nat → Nat × Nat} (h : Two w wr m A B TA TB) : Two w wr.drew m A B TA TB := ⟨⟨h.below.os, h.below.tape, h.below.output, h.below.size, h.below.block⟩, h.na, h.nb, h.ne, h.a, h.b⟩
theorem Two.drewN {w wr : World} {m A B : Nat} {TA TB : Nat → Nat × Nat} (h : Two w wr m A B TA TB) (j : Nat) : Two w (wr.drewN j) m A B TA TB := ⟨⟨h.below.os, h.below.tape, h.below.output, h.below.size, h.below.block⟩, h.na, h.nb, h.ne, h.a, h.b⟩
theorem Two.drew_below {w wr : World} {m A B : Nat} {TA TB : Nat → Nat × Nat} (_h : Two w wr m A B TA TB) : Below wr.heap.size wr wr.drew := ⟨rfl, rfl, rfl, Nat.le_refl _, fun _ _ => rfl⟩
theorem Two.free {w wr : World} {m A B : Nat} {TA TB : Nat → Nat × Nat} (h : Two w wr m A B TA TB) (j : Nat) : wr.frozen? ⟨B, j, none⟩ = false := free_blk h.b j
theorem Two.store' {w wr : World} {m A B : Nat} {TA TB : Nat → Nat × Nat} (h : Two w wr m A B TA TB) (k : Nat) (v : Nat × Nat) :
    Two w ((wr.setCell ⟨B, k * 2, none⟩ (.int .i64 (v.1 : Int))).setCell ⟨B, k * 2 + 1, none⟩ (.int .i64 (v.2 : Int))) m A B TA (put TB k v) := by
  rw [Nat.mul_comm]; exact h.store k v

set_option maxRecDepth 20000 in
set_option maxHeartbeats 8000000 in
theorem merge_any (p : Option Addr) (n c : Nat) (f : Nat → Nat) (y : Bool) (x : Addr) (m d : Nat) (S : Nat → Nat × Nat) (w : World) (hn : n ≤ 1048576) (hc : n ≤ c) (hcm : c ≤ 9223372036854775807) (hp : Rd w p n f) (hnil : p = none → n = 0 ∧ c = 0)
    (hm : m ≤ 65536) (hS : RdS w x m S) (hfit : Fits n m S) :
    Calls Try.prog 23 #[.slice p n c, .slice (some x) m d, .bool y] w fun e w' => ∃ b T, e = .returned (.slice (some ⟨b, 0, none⟩) m m) ∧ Ms f y m S w w' b T := by
  have mk := makeS m (by omega)
  have cp := copyS w m d x S hS
  go_enter Try.func23, Try.ntmps23
  go_wp2
  clear mk cp
  go_loopw [7, 8, 9] (fun a b i wr => ∃ (A B wd : Nat) (TA TB : Nat → Nat × Nat), a = .slice (some ⟨A, 0, none⟩) m m ∧ b = .slice (some ⟨B, 0, none⟩) m m ∧ i = .int .i64 wd ∧ 0 < wd ∧ wd ≤ 2 * 65536 ∧ Two w wr m A B TA TB ∧ Chunk (leS f y) wd m TA ∧ (seg TA 0 m).Perm (seg S 0 m)) (fun _ _ i _ => 2 * m - (intOf i).toNat)
  case atStart => exact ⟨_, _, 1, _, _, rfl, rfl, rfl, by omega, by omega, Two.start w m S, chunk_one _ _, List.Perm.refl _⟩
  case round =>
    obtain ⟨A, B, wd, TA, TB, rfl, rfl, rfl, hw0, hw1, htwo, hch, hpm⟩ := hrel
    by_cases hlt : wd < m
    · have hft := hfit.perm hpm
      have HP : Hid _ := hpm
      have HC : Hid _ := hch
      clear hS hfit hpm hch
      go_wp2
      go_loopw [10] (fun i wr => ∃ (lo t : Nat) (TB : Nat → Nat × Nat), i = .int .i64 lo ∧ lo ≤ 4 * 65536 ∧ Two w wr m A B TA TB ∧ lo = 2 * wd * t ∧ Pass (leS f y) wd m lo TA TB) (fun i _ => m - (intOf i).toNat)
      case atStart => exact ⟨0, 0, TB, rfl, by omega, htwo, by omega, Pass.none⟩
      case round =>
        clear htwo
        obtain ⟨lo, t, TB, rfl, ht, htwo, hlo, hpass⟩ := hrel
        have HL : Hid _ := hlo
        rw [hlo] at hpass
        have HPS : Hid (Pass (leS f y) wd m (2 * wd * t) TA TB) := hpass
        clear hlo hpass
        by_cases hlt2 : lo < m
        · obtain ⟨mid, hmid⟩ : ∃ mid, mid = min m (lo + wd) := ⟨_, rfl⟩
          obtain ⟨hi, hhi⟩ : ∃ hi, hi = min m (lo + 2 * wd) := ⟨_, rfl⟩
          have b1 : lo ≤ mid := by omega
          have b2 : mid ≤ hi := by omega
          have b3 : hi ≤ m := by omega
          have b4 : hi ≤ lo + 2 * wd := by omega
          have b5 : lo < hi := by omega
          have hm0 : Mid (leS f y) wd m t mid hi lo mid lo TA TB := by rw [HL.out]; exact Mid.start HPS.out (by rw [← HL.out]; exact b1) b2
          have HMI : Hid _ := (⟨hmid, hhi⟩ : mid = min m (lo + wd) ∧ hi = min m (lo + 2 * wd))
          have hcase : (mid = m ∧ hi = m ∧ m < lo + wd) ∨ (mid = lo + wd ∧ hi = m ∧ ¬ m < lo + wd ∧ m < lo + wd + wd) ∨ (mid = lo + wd ∧ hi = lo + wd + wd ∧ ¬ m < lo + wd ∧ ¬ m < lo + wd + wd) := by omega
          clear hmid hhi
          rcases hcase with ⟨e1, e2, h1⟩ | ⟨e1, e2, h1, h2⟩ | ⟨e1, e2, h1, h2⟩
          · go_wp2
            obtain rfl : m = mid := by omega
            obtain rfl : m = hi := by omega
            skip
            try generalize decide ((m : Int) < (m : Int)) = d1
            try generalize decide ((m : Int) < (m : Int)) = d2
            try generalize decide ((m : Int) < (lo : Int) + (wd : Int)) = d3
            try generalize decide ((m : Int) < (m : Int) + (wd : Int)) = d4
            try generalize decide ((m : Int) < (m : Int) + (wd : Int)) = d6
            have HE : Hid _ := (⟨e1, e2⟩ : _ ∧ _)
            clear e1 e2
            go_loopw [13, 14, 15] (fun i13 i14 i15 wr => ∃ (pp q k : Nat) (TB : Nat → Nat × Nat), i13 = .int .i64 pp ∧ i14 = .int .i64 q ∧ i15 = .int .i64 k ∧ Two w wr m A B TA TB ∧ Mid (leS f y) wd m t m m pp q k TA TB) (fun _ _ i _ => m - (intOf i).toNat)
            case atStart => exact ⟨lo, m, lo, TB, rfl, by (first | rfl | (congr 1; omega)), rfl, htwo, hm0⟩
            case round =>
              clear htwo hm0
              obtain ⟨pp, q, k, TB', rfl, rfl, rfl, htwo, hmd⟩ := hrel
              have z1 := hmd.p2
              have z2 := hmd.q1
              have z3 := hmd.q2
              have z4 := hmd.kk
              by_cases hkk : k < m
              · by_cases hq : q < m
                · exfalso; omega
                · have hpp : pp < m := by omega
                  have HT := htwo
                  have g1 : decide ((m : Int) ≤ (q : Int)) = true := by simp; omega
                  clear htwo
                  go_wp2_with fail
                  refine still_tail 18 (by kernel_rfl) (by kernel_rfl) ?_
                  simp only [List.take_succ_cons, List.take_zero, List.drop_succ_cons, List.drop_zero]
                  iterate 18 (with_reducible refine wpStill_step (fun K hK => ?_); go_simp; (first | with_reducible refine hK _ ?_ | (rw [if_neg (by simp [undef])]; with_reducible refine hK _ ?_)); clear hK K)
                  with_reducible refine wpStill_nil ?_
                  have j1 := HT.fst (show pp < m by omega)
                  have j2 := HT.snd (show pp < m by omega)
                  have j3 := HT.swap.fst (show k < m by omega)
                  have j4 := HT.swap.snd (show k < m by omega)
                  have j5 := HT.free (k * 2)
                  have j6 := HT.free (k * 2 + 1)
                  have HM : Hid _ := hmd.left hpp (fun h => absurd h hq)
                  have HT2 : Hid _ := HT.drew.store' k (TA pp)
                  clear HT hmd
                  go_wp2
                  go_roundw
                  case rel => exact ⟨pp + 1, q, k + 1, _, by go_num, rfl, by go_num, HT2.out, HM.out⟩
                  case measure => simp [intOf]; omega
              · obtain rfl : k = m := by omega
                have HPN : Hid _ := hmd.done (by rw [← HL.out]; exact HMI.out.1) (by rw [← HL.out]; exact HMI.out.2)
                have HT2 : Hid _ := htwo
                clear hmd htwo
                go_wp2
                go_roundw
                case rel => exact ⟨lo + 2 * wd, t + 1, _, by go_num, by omega, HT2.out, by rw [HL.out, Nat.mul_succ], by rw [HL.out, ← Nat.mul_succ]; exact HPN.out⟩
                case measure => simp [intOf]; omega
          · go_wp2
            have E2 : (lo : Int) + (wd : Int) = (mid : Int) := by omega
            rw [E2]
            clear E2
            obtain rfl : m = hi := by omega
            skip
            try generalize decide ((m : Int) < (mid : Int)) = d1
            try generalize decide ((m : Int) < (m : Int)) = d2
            try generalize decide ((m : Int) < (lo : Int) + (wd : Int)) = d3
            try generalize decide ((m : Int) < (m : Int) + (wd : Int)) = d4
            try generalize decide ((m : Int) < (mid : Int) + (wd : Int)) = d6
            have HE : Hid _ := (⟨e1, e2⟩ : _ ∧ _)
            clear e1 e2
            go_loopw [13, 14, 15] (fun i13 i14 i15 wr => ∃ (pp q k : Nat) (TB : Nat → Nat × Nat), i13 = .int .i64 pp ∧ i14 = .int .i64 q ∧ i15 = .int .i64 k ∧ Two w wr m A B TA TB ∧ Mid (leS f y) wd m t mid m pp q k TA TB) (fun _ _ i _ => m - (intOf i).toNat)
            case atStart => exact ⟨lo, mid, lo, TB, rfl, by (first | rfl | (congr 1; omega)), rfl, htwo, hm0⟩
            case round =>
              clear htwo hm0
              obtain ⟨pp, q, k, TB', rfl, rfl, rfl, htwo, hmd⟩ := hrel
              have z1 := hmd.p2
              have z2 := hmd.q1
              have z3 := hmd.q2
              have z4 := hmd.kk
              by_cases hkk : k < m
              · by_cases hq : q < m
                · by_cases hpp : pp < mid
                  · have c1 := htwo.fst (show pp < m by omega)
                    have c2 := htwo.snd (show pp < m by omega)
                    have c3 := htwo.fst (show q < m by omega)
                    have c4 := htwo.snd (show q < m by omega)
                    have g1 : decide ((m : Int) ≤ (q : Int)) = false := by simp; omega
                    have g2 : decide ((pp : Int) < (mid : Int)) = true := by simp; omega
                    have g3 : decide ((pp : Int) < (m : Int)) = true := by simp; omega
                    have i1 : (pp : Int) < (m : Int) := by omega
                    have i2 : (q : Int) < (m : Int) := by omega
                    by_cases hle : leS f y (TA pp) (TA q) = true
                    · go_wp2_with fail
                      refine still_tail 18 (by kernel_rfl) (by kernel_rfl) ?_
                      simp only [List.take_succ_cons, List.take_zero, List.drop_succ_cons, List.drop_zero]
                      repeat still_step
                      refine wpStill_nil ?_
                      go_wp2_with fail
                      have HH := (spanLE_any p n c f y (TA pp) (TA q) wr.drew hn hc hcm ((hp.below htwo.below).below htwo.drew_below) hnil (hft pp (by omega)) (hft q (by omega)))
                      refine HH.mono ?_
                      clear HH
                      rintro e w1 ⟨he, hb1⟩
                      rw [hle] at he
                      subst he
                      have HT := htwo.drew.grow hb1
                      clear htwo c1 c2 c3 c4 hb1 i1 i2 g1 g2 g3
                      have j1 := HT.fst (show pp < m by omega)
                      have j2 := HT.snd (show pp < m by omega)
                      have j3 := HT.swap.fst (show k < m by omega)
                      have j4 := HT.swap.snd (show k < m by omega)
                      have j5 := HT.free (k * 2)
                      have j6 := HT.free (k * 2 + 1)
                      have HM : Hid _ := hmd.left hpp (fun _ => hle)
                      have HT2 : Hid _ := HT.store' k (TA pp)
                      clear HT hmd
                      go_wp2
                      go_roundw
                      case rel => exact ⟨pp + 1, q, k + 1, _, by go_num, rfl, by go_num, HT2.out, HM.out⟩
                      case measure => simp [intOf]; omega
                    · have hle : leS f y (TA pp) (TA q) = false := by simpa using hle
                      go_wp2_with fail
                      refine still_tail 18 (by kernel_rfl) (by kernel_rfl) ?_
                      simp only [List.take_succ_cons, List.take_zero, List.drop_succ_cons, List.drop_zero]
                      repeat still_step
                      refine wpStill_nil ?_
                      go_wp2_with fail
                      have HH := (spanLE_any p n c f y (TA pp) (TA q) wr.drew hn hc hcm ((hp.below htwo.below).below htwo.drew_below) hnil (hft pp (by omega)) (hft q (by omega)))
                      refine HH.mono ?_
                      clear HH
                      rintro e w1 ⟨he, hb1⟩
                      rw [hle] at he
                      subst he
                      have HT := htwo.drew.grow hb1
                      clear htwo c1 c2 c3 c4 hb1 i1 i2 g1 g2 g3
                      have j1 := HT.fst (show q < m by omega)
                      have j2 := HT.snd (show q < m by omega)
                      have j3 := HT.swap.fst (show k < m by omega)
                      have j4 := HT.swap.snd (show k < m by omega)
                      have j5 := HT.free (k * 2)
                      have j6 := HT.free (k * 2 + 1)
                      have HM : Hid _ := hmd.right hq (fun _ => hle)
                      have HT2 : Hid _ := HT.store' k (TA q)
                      clear HT hmd
                      go_wp2
                      go_roundw
                      case rel => exact ⟨pp, q + 1, k + 1, _, rfl, by go_num, by go_num, HT2.out, HM.out⟩
                      case measure => simp [intOf]; omega
                  · have HT := htwo
                    have g1 : decide ((m : Int) ≤ (q : Int)) = false := by simp; omega
                    have g2 : decide ((pp : Int) < (mid : Int)) = false := by simp; omega
                    clear htwo
                    go_wp2_with fail
                    refine still_tail 18 (by kernel_rfl) (by kernel_rfl) ?_
                    simp only [List.take_succ_cons, List.take_zero, List.drop_succ_cons, List.drop_zero]
                    iterate 18 (with_reducible refine wpStill_step (fun K hK => ?_); go_simp; with_reducible refine hK _ ?_; clear hK K)
                    with_reducible refine wpStill_nil ?_
                    have j1 := HT.fst (show q < m by omega)
                    have j2 := HT.snd (show q < m by omega)
                    have j3 := HT.swap.fst (show k < m by omega)
                    have j4 := HT.swap.snd (show k < m by omega)
                    have j5 := HT.free (k * 2)
                    have j6 := HT.free (k * 2 + 1)
                    have HM : Hid _ := hmd.right hq (fun h => absurd h hpp)
                    have HT2 : Hid _ := HT.drew.store' k (TA q)
                    clear HT hmd
                    go_wp2
                    go_roundw
                    case rel => exact ⟨pp, q + 1, k + 1, _, rfl, by go_num, by go_num, HT2.out, HM.out⟩
                    case measure => simp [intOf]; omega
                · have hpp : pp < mid := by omega
                  have HT := htwo
                  have g1 : decide ((m : Int) ≤ (q : Int)) = true := by simp; omega
                  clear htwo
                  go_wp2_with fail
                  refine still_tail 18 (by kernel_rfl) (by kernel_rfl) ?_
                  simp only [List.take_succ_cons, List.take_zero, List.drop_succ_cons, List.drop_zero]
                  iterate 18 (with_reducible refine wpStill_step (fun K hK => ?_); go_simp; (first | with_reducible refine hK _ ?_ | (rw [if_neg (by simp [undef])]; with_reducible refine hK _ ?_)); clear hK K)
                  with_reducible refine wpStill_nil ?_
                  have j1 := HT.fst (show pp < m by omega)
                  have j2 := HT.snd (show pp < m by omega)
                  have j3 := HT.swap.fst (show k < m by omega)
                  have j4 := HT.swap.snd (show k < m by omega)
                  have j5 := HT.free (k * 2)
                  have j6 := HT.free (k * 2 + 1)
                  have HM : Hid _ := hmd.left hpp (fun h => absurd h hq)
                  have HT2 : Hid _ := HT.drew.store' k (TA pp)
                  clear HT hmd
                  go_wp2
                  go_roundw
                  case rel => exact ⟨pp + 1, q, k + 1, _, by go_num, rfl, by go_num, HT2.out, HM.out⟩
                  case measure => simp [intOf]; omega
              · obtain rfl : k = m := by omega
                have HPN : Hid _ := hmd.done (by rw [← HL.out]; exact HMI.out.1) (by rw [← HL.out]; exact HMI.out.2)
                have HT2 : Hid _ := htwo
                clear hmd htwo
                go_wp2
                go_roundw
                case rel => exact ⟨lo + 2 * wd, t + 1, _, by go_num, by omega, HT2.out, by rw [HL.out, Nat.mul_succ], by rw [HL.out, ← Nat.mul_succ]; exact HPN.out⟩
                case measure => simp [intOf]; omega
          · go_wp2
            have E1 : (mid : Int) + (wd : Int) = (hi : Int) := by omega
            have E2 : (lo : Int) + (wd : Int) = (mid : Int) := by omega
            rw [E2, E1]
            clear E2 E1
            skip
            try generalize decide ((m : Int) < (mid : Int)) = d1
            try generalize decide ((m : Int) < (hi : Int)) = d2
            try generalize decide ((m : Int) < (lo : Int) + (wd : Int)) = d3
            try generalize decide ((m : Int) < (m : Int) + (wd : Int)) = d4
            try generalize decide ((m : Int) < (mid : Int) + (wd : Int)) = d6
            have HE : Hid _ := (⟨e1, e2⟩ : _ ∧ _)
            clear e1 e2
            go_loopw [13, 14, 15] (fun i13 i14 i15 wr => ∃ (pp q k : Nat) (TB : Nat → Nat × Nat), i13 = .int .i64 pp ∧ i14 = .int .i64 q ∧ i15 = .int .i64 k ∧ Two w wr m A B TA TB ∧ Mid (leS f y) wd m t mid hi pp q k TA TB) (fun _ _ i _ => hi - (intOf i).toNat)
            case atStart => exact ⟨lo, mid, lo, TB, rfl, by (first | rfl | (congr 1; omega)), rfl, htwo, hm0⟩
            case round =>
              clear htwo hm0
              obtain ⟨pp, q, k, TB', rfl, rfl, rfl, htwo, hmd⟩ := hrel
              have z1 := hmd.p2
              have z2 := hmd.q1
              have z3 := hmd.q2
              have z4 := hmd.kk
              by_cases hkk : k < hi
              · by_cases hq : q < hi
                · by_cases hpp : pp < mid
                  · have c1 := htwo.fst (show pp < m by omega)
                    have c2 := htwo.snd (show pp < m by omega)
                    have c3 := htwo.fst (show q < m by omega)
                    have c4 := htwo.snd (show q < m by omega)
                    have g1 : decide ((hi : Int) ≤ (q : Int)) = false := by simp; omega
                    have g2 : decide ((pp : Int) < (mid : Int)) = true := by simp; omega
                    have g3 : decide ((pp : Int) < (hi : Int)) = true := by simp; omega
                    have i1 : (pp : Int) < (m : Int) := by omega
                    have i2 : (q : Int) < (m : Int) := by omega
                    by_cases hle : leS f y (TA pp) (TA q) = true
                    · go_wp2_with fail
                      refine still_tail 18 (by kernel_rfl) (by kernel_rfl) ?_
                      simp only [List.take_succ_cons, List.take_zero, List.drop_succ_cons, List.drop_zero]
                      repeat still_step
                      refine wpStill_nil ?_
                      go_wp2_with fail
                      have HH := (spanLE_any p n c f y (TA pp) (TA q) wr.drew hn hc hcm ((hp.below htwo.below).below htwo.drew_below) hnil (hft pp (by omega)) (hft q (by omega)))
                      refine HH.mono ?_
                      clear HH
                      rintro e w1 ⟨he, hb1⟩
                      rw [hle] at he
                      subst he
                      have HT := htwo.drew.grow hb1
                      clear htwo c1 c2 c3 c4 hb1 i1 i2 g1 g2 g3
                      have j1 := HT.fst (show pp < m by omega)
                      have j2 := HT.snd (show pp < m by omega)
                      have j3 := HT.swap.fst (show k < m by omega)
                      have j4 := HT.swap.snd (show k < m by omega)
                      have j5 := HT.free (k * 2)
                      have j6 := HT.free (k * 2 + 1)
                      have HM : Hid _ := hmd.left hpp (fun _ => hle)
                      have HT2 : Hid _ := HT.store' k (TA pp)
                      clear HT hmd
                      go_wp2
                      go_roundw
                      case rel => exact ⟨pp + 1, q, k + 1, _, by go_num, rfl, by go_num, HT2.out, HM.out⟩
                      case measure => simp [intOf]; omega
                    · have hle : leS f y (TA pp) (TA q) = false := by simpa using hle
                      go_wp2_with fail
                      refine still_tail 18 (by kernel_rfl) (by kernel_rfl) ?_
                      simp only [List.take_succ_cons, List.take_zero, List.drop_succ_cons, List.drop_zero]
                      repeat still_step
                      refine wpStill_nil ?_
                      go_wp2_with fail
                      have HH := (spanLE_any p n c f y (TA pp) (TA q) wr.drew hn hc hcm ((hp.below htwo.below).below htwo.drew_below) hnil (hft pp (by omega)) (hft q (by omega)))
                      refine HH.mono ?_
                      clear HH
                      rintro e w1 ⟨he, hb1⟩
                      rw [hle] at he
                      subst he
                      have HT := htwo.drew.grow hb1
                      clear htwo c1 c2 c3 c4 hb1 i1 i2 g1 g2 g3
                      have j1 := HT.fst (show q < m by omega)
                      have j2 := HT.snd (show q < m by omega)
                      have j3 := HT.swap.fst (show k < m by omega)
                      have j4 := HT.swap.snd (show k < m by omega)
                      have j5 := HT.free (k * 2)
                      have j6 := HT.free (k * 2 + 1)
                      have HM : Hid _ := hmd.right hq (fun _ => hle)
                      have HT2 : Hid _ := HT.store' k (TA q)
                      clear HT hmd
                      go_wp2
                      go_roundw
                      case rel => exact ⟨pp, q + 1, k + 1, _, rfl, by go_num, by go_num, HT2.out, HM.out⟩
                      case measure => simp [intOf]; omega
                  · have HT := htwo
                    have g1 : decide ((hi : Int) ≤ (q : Int)) = false := by simp; omega
                    have g2 : decide ((pp : Int) < (mid : Int)) = false := by simp; omega
                    clear htwo
                    go_wp2_with fail
                    refine still_tail 18 (by kernel_rfl) (by kernel_rfl) ?_
                    simp only [List.take_succ_cons, List.take_zero, List.drop_succ_cons, List.drop_zero]
                    iterate 18 (with_reducible refine wpStill_step (fun K hK => ?_); go_simp; with_reducible refine hK _ ?_; clear hK K)
                    with_reducible refine wpStill_nil ?_
                    have j1 := HT.fst (show q < m by omega)
                    have j2 := HT.snd (show q < m by omega)
                    have j3 := HT.swap.fst (show k < m by omega)
                    have j4 := HT.swap.snd (show k < m by omega)
                    have j5 := HT.free (k * 2)
                    have j6 := HT.free (k * 2 + 1)
                    have HM : Hid _ := hmd.right hq (fun h => absurd h hpp)
                    have HT2 : Hid _ := HT.drew.store' k (TA q)
                    clear HT hmd
                    go_wp2
                    go_roundw
                    case rel => exact ⟨pp, q + 1, k + 1, _, rfl, by go_num, by go_num, HT2.out, HM.out⟩
                    case measure => simp [intOf]; omega
                · have hpp : pp < mid := by omega
                  have HT := htwo
                  have g1 : decide ((hi : Int) ≤ (q : Int)) = true := by simp; omega
                  clear htwo
                  go_wp2_with fail
                  refine still_tail 18 (by kernel_rfl) (by kernel_rfl) ?_
                  simp only [List.take_succ_cons, List.take_zero, List.drop_succ_cons, List.drop_zero]
                  iterate 18 (with_reducible refine wpStill_step (fun K hK => ?_); go_simp; (first | with_reducible refine hK _ ?_ | (rw [if_neg (by simp [undef])]; with_reducible refine hK _ ?_)); clear hK K)
                  with_reducible refine wpStill_nil ?_
                  have j1 := HT.fst (show pp < m by omega)
                  have j2 := HT.snd (show pp < m by omega)
                  have j3 := HT.swap.fst (show k < m by omega)
                  have j4 := HT.swap.snd (show k < m by omega)
                  have j5 := HT.free (k * 2)
                  have j6 := HT.free (k * 2 + 1)
                  have HM : Hid _ := hmd.left hpp (fun h => absurd h hq)
                  have HT2 : Hid _ := HT.drew.store' k (TA pp)
                  clear HT hmd
                  go_wp2
                  go_roundw
                  case rel => exact ⟨pp + 1, q, k + 1, _, by go_num, rfl, by go_num, HT2.out, HM.out⟩
                  case measure => simp [intOf]; omega
              · obtain rfl : k = hi := by omega
                have HPN : Hid _ := hmd.done (by rw [← HL.out]; exact HMI.out.1) (by rw [← HL.out]; exact HMI.out.2)
                have HT2 : Hid _ := htwo
                clear hmd htwo
                go_wp2
                go_roundw
                case rel => exact ⟨lo + 2 * wd, t + 1, _, by go_num, by omega, HT2.out, by rw [HL.out, Nat.mul_succ], by rw [HL.out, ← Nat.mul_succ]; exact HPN.out⟩
                case measure => simp [intOf]; omega
        · have hfull := (HPS.out).full (by rw [← HL.out]; omega)
          have HC2 : Hid _ := pass_chunk hw0 (leS_trans f y) (leS_total f y) HC.out hfull
          have HP2 : Hid _ := (pass_all hw0 hfull).trans HP.out
          have HT2 : Hid _ := htwo.swap
          clear hfull htwo
          go_wp2
          go_roundw
          case rel => exact ⟨B, A, wd * 2, TB, TA, rfl, rfl, by go_num, by omega, by omega, HT2.out, by rw [Nat.mul_comm]; exact HC2.out, HP2.out⟩
          case measure => simp [intOf]; omega
    · have HM : Hid _ := (⟨htwo.below, htwo.na, htwo.a, hpm, chunk_done hch (by omega)⟩ : Ms f y m S w wr A TA)
      clear hp hnil hS hfit htwo hch hpm
      go_wp2
      go_ret
      exact ⟨_, _, rfl, HM.out⟩
end Go.Proofs.Qxb6608761a
