import Derived.Test.Qxb6613595aObsPrem
namespace Go.Proofs.Qxb6613595a
open Go.RowKit Go.MuLone

theorem Mk.alike {N n : Nat} {w wr wr' : World} {g : Nat → Int} (h : Mk N n w wr g) (e1 : wr'.heap = wr.heap) (e2 : wr'.os = wr.os) (e3 : wr'.tape = wr.tape) (e4 : wr'.output = wr.output) : Mk N n w wr' g :=
  ⟨⟨e2.trans h.below.os, e3.trans h.below.tape, e4.trans h.below.output, by rw [e1]; exact h.below.size, fun k hk => by rw [e1]; exact h.below.block k hk⟩, by rw [e1]; exact h.size, by rw [e1]; exact h.own⟩
theorem upd_upd (g : Nat → Int) (k : Nat) (a b : Int) : upd (upd g k a) k b = upd g k b := by
  funext i; unfold upd; split <;> rfl
theorem Mk.two {N n : Nat} {w wr : World} {f g : Nat → Int} {k : Nat} (h : Mk N n w wr (mixf k f g)) (a : Int) : Mk N n w ((wr.setCell ⟨N, k, none⟩ (.int .i64 a)).setCell ⟨N, k, none⟩ (.int .i64 (f k))) (mixf (k + 1) f g) := by
  have := (h.store k a).store k (f k)
  rwa [upd_upd, mixf_upd] at this
theorem Mk.one {N n : Nat} {w wr : World} {f g : Nat → Int} {k : Nat} (h : Mk N n w wr (mixf k f g)) : Mk N n w (wr.setCell ⟨N, k, none⟩ (.int .i64 (f k))) (mixf (k + 1) f g) := by
  have := h.store k (f k)
  rwa [mixf_upd] at this

set_option maxRecDepth 20000 in
set_option maxHeartbeats 2000000 in
theorem readings_any (n b4 b5 b6 : Nat) (f4 f5 f6 : Nat → Int) (w : World) (hn : n ≤ 4096)
    (h4 : b4 < w.heap.size) (h5 : b5 < w.heap.size) (h6 : b6 < w.heap.size)
    (r4 : ∀ i, i < n → w.cell? ⟨b4, i, none⟩ = some (.int .i64 (f4 i))) (r5 : ∀ i, i < n → w.cell? ⟨b5, i, none⟩ = some (.int .i64 (f5 i))) (r6 : ∀ i, i < n → w.cell? ⟨b6, i, none⟩ = some (.int .i64 (f6 i)))
    (q4 : ∀ i, i < n → 0 ≤ f4 i ∧ f4 i ≤ mx) (q5 : ∀ i, i < n → 0 ≤ f5 i ∧ f5 i ≤ mx) :
    Calls Try.prog 10 #[.slice (some ⟨b4, 0, none⟩) n n, .slice (some ⟨b5, 0, none⟩) n n, .slice (some ⟨b6, 0, none⟩) n n] w fun e w' => e = .returned (.slice (some ⟨w.heap.size, 0, none⟩) n n) ∧ Mk w.heap.size n w w' (want f4 f5 f6) := by
  have hmk := make26 n hn
  go_enter Try.func10, Try.ntmps10
  go_wp2
  clear hmk
  go_loopw [8] (fun i wr => ∃ k : Nat, k ≤ n ∧ i = .int .i64 k ∧ Mk w.heap.size n w wr (mixf k (want f4 f5 f6) (fun _ => 0))) (fun i _ => n - (intOf i).toNat)
  case atStart => exact ⟨0, Nat.zero_le _, rfl, by simpa only [mixf_zero] using Mk.init n w⟩
  case round =>
    obtain ⟨k, hk, rfl, hm⟩ := hrel
    by_cases hlt : k < n
    · have d4 := (hm.below.cell (p := ⟨b4, k, none⟩) h4).trans (r4 k hlt)
      have d5 := (hm.below.cell (p := ⟨b5, k, none⟩) h5).trans (r5 k hlt)
      have d6 := (hm.below.cell (p := ⟨b6, k, none⟩) h6).trans (r6 k hlt)
      have dN := hm.cell k hlt
      have fN := hm.free k
      have s4 := q4 k hlt
      have s5 := q5 k hlt
      have HM : Hid _ := hm
      clear hm r4 r5 r6 q4 q5
      by_cases hl : f4 k ≤ mx - f5 k
      · have hlat := lat_le _ _ hl
        unfold mx at hl s4 s5
        by_cases hc : f6 k < f4 k + f5 k
        · have hv : want f4 f5 f6 k = f4 k + f5 k := by simp only [want, rdg, hlat, hc, if_true]
          have HR : Hid _ := HM.out.two (f6 k)
          rw [hv] at HR
          clear hv hlat HM
          go_wp2
          go_quiet (fail)
          go_wp2
          go_quiet (fail)
          go_wp2
          go_roundw
          case rel => exact ⟨k + 1, hlt, by go_num, HR.out.alike rfl rfl rfl rfl⟩
          case measure => simp [intOf]; omega
        · have hv : want f4 f5 f6 k = f6 k := by simp only [want, rdg, hlat, hc, if_false]
          have HR : Hid _ := HM.out.one
          rw [hv] at HR
          clear hv hlat HM
          go_wp2
          go_quiet (fail)
          go_wp2
          go_quiet (fail)
          go_wp2
          go_roundw
          case rel => exact ⟨k + 1, hlt, by go_num, HR.out.alike rfl rfl rfl rfl⟩
          case measure => simp [intOf]; omega
      · have hlat := lat_gt _ _ hl
        unfold mx at hl s4 s5
        by_cases hc : f6 k < 9223372036854775807
        · have hv : want f4 f5 f6 k = 9223372036854775807 := by simp only [want, rdg, hlat]; exact if_pos hc
          have HR : Hid _ := HM.out.two (f6 k)
          rw [hv] at HR
          clear hv hlat HM
          go_wp2
          go_quiet (fail)
          go_wp2
          go_roundw
          case rel => exact ⟨k + 1, hlt, by go_num, HR.out.alike rfl rfl rfl rfl⟩
          case measure => simp [intOf]; omega
        · have hv : want f4 f5 f6 k = f6 k := by simp only [want, rdg, hlat]; exact if_neg hc
          have HR : Hid _ := HM.out.one
          rw [hv] at HR
          clear hv hlat HM
          go_wp2
          go_quiet (fail)
          go_wp2
          go_roundw
          case rel => exact ⟨k + 1, hlt, by go_num, HR.out.alike rfl rfl rfl rfl⟩
          case measure => simp [intOf]; omega
    · obtain rfl : k = n := by omega
      have HM : Hid _ := hm.congr (mixf_full k _ _)
      clear hm r4 r5 r6 q4 q5
      go_wp2
      go_ret
      exact ⟨rfl, HM.out⟩

set_option maxRecDepth 20000 in
set_option maxHeartbeats 2000000 in
theorem epsilon_any (now period eps : Int) (n b : Nat) (f : Nat → Int) (w : World) (h0 : 0 < n) (hn : n ≤ 4096) (hp0 : 0 ≤ period) (hp1 : period < 4611686018427387904)
    (r : ∀ i, i < n → w.cell? ⟨b, i, none⟩ = some (.int .i64 (f i))) (q : ∀ i, i < n → 0 ≤ f i ∧ f i ≤ mx) :
    Calls Try.prog 15 #[.int .i64 now, .int .i64 period, .int .i64 eps, .slice (some ⟨b, 0, none⟩) n n] w fun e w' => e = .returned (.int .i64 (epsV now period eps n f)) ∧ w'.Alike w ∧ w'.tape = w.tape := by
  by_cases hnp : now < 2 * period
  · have e : epsV now period eps n f = eps := by simp [epsV, hnp]
    rw [e]
    clear e
    go_enter Try.func15, Try.ntmps15
    go_wp2
    go_ret
    exact ⟨rfl, ⟨rfl, rfl, rfl⟩, rfl⟩
  · have k0 : ((n : Int) == 0) = false := by simp; omega
    have r0 := r 0 h0
    go_enter Try.func15, Try.ntmps15
    go_wp2
    go_quiet (fail)
    go_wp2
    go_loop [9, 10, 11] (fun mh ml i => ∃ k : Nat, k + 1 ≤ n ∧ i = .int .i64 ((k + 1 : Nat) : Int) ∧ mh = .int .i64 (hi f k) ∧ ml = .int .i64 (lo f k)) (fun _ _ i => n - (intOf i).toNat)
    case atStart => exact ⟨0, h0, rfl, rfl, rfl⟩
    case round =>
      obtain ⟨k, hk, rfl, rfl, rfl⟩ := hrel
      by_cases hlt : k + 1 < n
      · have hck := r (k + 1) hlt
        clear r q
        by_cases c1 : hi f k < f (k + 1)
        · have v1 : hi f (k + 1) = f (k + 1) := by simp only [hi, c1, if_true]
          by_cases c2 : f (k + 1) < lo f k
          · have v2 : lo f (k + 1) = f (k + 1) := by simp only [lo, c2, if_true]
            have HV : Hid (hi f (k + 1) = f (k + 1) ∧ lo f (k + 1) = f (k + 1)) := ⟨v1, v2⟩
            clear v1 v2
            go_wp2
            go_round
            case rel => exact ⟨k + 1, hlt, by go_num, by rw [HV.out.1], by rw [HV.out.2]⟩
            case measure => simp [intOf]; omega
          · have v2 : lo f (k + 1) = lo f k := by simp only [lo, c2, if_false]
            have HV : Hid (hi f (k + 1) = f (k + 1) ∧ lo f (k + 1) = lo f k) := ⟨v1, v2⟩
            clear v1 v2
            go_wp2
            go_round
            case rel => exact ⟨k + 1, hlt, by go_num, by rw [HV.out.1], by rw [HV.out.2]⟩
            case measure => simp [intOf]; omega
        · have v1 : hi f (k + 1) = hi f k := by simp only [hi, c1, if_false]
          by_cases c2 : f (k + 1) < lo f k
          · have v2 : lo f (k + 1) = f (k + 1) := by simp only [lo, c2, if_true]
            have HV : Hid (hi f (k + 1) = hi f k ∧ lo f (k + 1) = f (k + 1)) := ⟨v1, v2⟩
            clear v1 v2
            go_wp2
            go_round
            case rel => exact ⟨k + 1, hlt, by go_num, by rw [HV.out.1], by rw [HV.out.2]⟩
            case measure => simp [intOf]; omega
          · have v2 : lo f (k + 1) = lo f k := by simp only [lo, c2, if_false]
            have HV : Hid (hi f (k + 1) = hi f k ∧ lo f (k + 1) = lo f k) := ⟨v1, v2⟩
            clear v1 v2
            go_wp2
            go_round
            case rel => exact ⟨k + 1, hlt, by go_num, by rw [HV.out.1], by rw [HV.out.2]⟩
            case measure => simp [intOf]; omega
      · obtain rfl : n = k + 1 := by omega
        obtain ⟨i1, hi1, e1⟩ := hi_mem f k
        obtain ⟨i2, hi2, e2⟩ := lo_mem f k
        have l1 := hi_ge f k i2 hi2
        have b1 := q i1 (by omega)
        have b2 := q i2 (by omega)
        have d1 : 0 ≤ lo f k := by rw [e2]; exact b2.1
        have d2 : lo f k ≤ hi f k := by rw [e2]; exact l1
        have d3 : hi f k ≤ 9223372036854775807 := by rw [e1]; exact b1.2
        have HE : Hid (epsV now period eps (k + 1) f = if eps < hi f k - lo f k then hi f k - lo f k else eps) := by show epsV _ _ _ _ _ = _; unfold epsV; rw [if_neg (by omega)]; rfl
        clear e1 e2 l1 b1 b2 r q r0
        by_cases hem : eps < hi f k - lo f k
        · rw [if_pos hem] at HE
          go_wp2
          go_ret
          rw [HE.out]
          exact ⟨rfl, ⟨rfl, rfl, rfl⟩, rfl⟩
        · rw [if_neg hem] at HE
          go_wp2
          go_ret
          rw [HE.out]
          exact ⟨rfl, ⟨rfl, rfl, rfl⟩, rfl⟩
end Go.Proofs.Qxb6613595a
