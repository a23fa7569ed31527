import Derived.Test.Qxb6613595aProg
import Derived.Test.Qxb6613595aFloat
import Derived.WalkKit
import Derived.WalkSpells
import Derived.WalkLawsBesides
namespace Go.Proofs.Qxb6613595a
open Go.RowKit Ieee

/-- The bits of 'milliseconds(d)'. -/
def msB (d : Int) : Nat := double.word (decide (d < 0)) (Fl.R d.natAbs)
theorem ms_bits (d : Int) (h : d.natAbs < 2 ^ 64) : floatBits .quo .f64 (floatOfInt .f64 d) 4696837146684686336 = some (msB d) := Fl.ms_eq d h

theorem cmp_lt {x y : Int} (h : x < y) : compare x y = .lt := by simp [compare, compareOfLessAndEq, h]
theorem cmp_eq {x y : Int} (h : x = y) : compare x y = .eq := by subst h; simp [compare, compareOfLessAndEq]
theorem cmp_gt {x y : Int} (h : y < x) : compare x y = .gt := by
  have h1 : ¬ x < y := by omega
  have h2 : ¬ x = y := by omega
  simp [compare, compareOfLessAndEq, h1, h2]

theorem V_pos {r : Nat} (h : 0 < r) : 0 < Fl.V r := by have := Fl.V_lt h; rw [Fl.V_zero] at this; exact this

theorem sv_mono {lo hi : Int} (h : lo ≤ hi) : Fl.sv (decide (lo < 0)) (Fl.R lo.natAbs) ≤ Fl.sv (decide (hi < 0)) (Fl.R hi.natAbs) := by
  have key : ∀ a b : Nat, a ≤ b → Fl.V (Fl.R a) ≤ Fl.V (Fl.R b) := fun a b hab => by
    have := Fl.R_mono hab
    by_cases e : Fl.R a = Fl.R b
    · rw [e]; exact Nat.le_refl _
    · exact Nat.le_of_lt (Fl.V_lt (by omega))
  unfold Fl.sv
  by_cases h1 : lo < 0 <;> by_cases h2 : hi < 0
  · have := key hi.natAbs lo.natAbs (by omega)
    simp only [h1, h2, decide_true, if_true]
    omega
  · simp only [h1, h2, decide_true, decide_false, if_true, Bool.false_eq_true, if_false]
    omega
  · omega
  · have := key lo.natAbs hi.natAbs (by omega)
    simp only [h1, h2, decide_false, Bool.false_eq_true, if_false]
    omega

theorem order_ms (a b : Int) (ha : a.natAbs < 2 ^ 64) (hb : b.natAbs < 2 ^ 64) :
    FloatKind.f64.format.order (msB a) (msB b) = some (compare (Fl.sv (decide (a < 0)) (Fl.R a.natAbs)) (Fl.sv (decide (b < 0)) (Fl.R b.natAbs))) :=
  Fl.order_word _ _ _ _ (Fl.R_fin _ ha) (Fl.R_fin _ hb)

theorem ms_le {lo hi : Int} (h : lo ≤ hi) (hl : lo.natAbs < 2 ^ 64) (hh : hi.natAbs < 2 ^ 64) :
    (FloatKind.f64.format.order (msB lo) (msB hi) == some .lt || FloatKind.f64.format.order (msB lo) (msB hi) == some .eq) = true := by
  rw [order_ms lo hi hl hh]
  have := sv_mono h
  by_cases e : Fl.sv (decide (lo < 0)) (Fl.R lo.natAbs) = Fl.sv (decide (hi < 0)) (Fl.R hi.natAbs)
  · rw [cmp_eq e]; rfl
  · rw [cmp_lt (by omega)]; rfl

theorem order_zero (d : Int) (h : d.natAbs < 2 ^ 64) : FloatKind.f64.format.order (msB d) 0 = some (if d < 0 then .lt else if 0 < d then .gt else .eq) := by
  have e := Fl.order_word (decide (d < 0)) false (Fl.R d.natAbs) 0 (Fl.R_fin _ h) (by decide)
  have e0 : double.word false 0 = 0 := rfl
  rw [e0] at e
  refine Eq.trans e ?_
  congr 1
  have z : Fl.sv false 0 = 0 := rfl
  rw [z]
  by_cases h1 : d < 0
  · have := V_pos (Fl.R_pos d.natAbs (by omega) h)
    rw [if_pos h1]
    refine cmp_lt ?_
    simp only [Fl.sv, h1, decide_true, if_true]
    omega
  · rw [if_neg h1]
    by_cases h2 : 0 < d
    · have := V_pos (Fl.R_pos d.natAbs (by omega) h)
      rw [if_pos h2]
      refine cmp_gt ?_
      simp only [Fl.sv, h1, decide_false, Bool.false_eq_true, if_false]
      omega
    · have : d = 0 := by omega
      subst this
      rw [if_neg h2]
      exact cmp_eq (by decide +kernel)

theorem ms_neg (d : Int) (h : d.natAbs < 2 ^ 64) : (FloatKind.f64.format.order (msB d) 0 == some .lt) = decide (d < 0) := by
  rw [order_zero d h]
  by_cases h1 : d < 0
  · simp [h1]
  · by_cases h2 : 0 < d <;> simp [h1, h2]
theorem ms_pos (d : Int) (h : d.natAbs < 2 ^ 64) : (FloatKind.f64.format.order (msB d) 0 == some .gt) = decide (0 < d) := by
  rw [order_zero d h]
  by_cases h1 : d < 0
  · have h2 : ¬ 0 < d := by omega
    simp [h1, h2]
  · by_cases h2 : 0 < d <;> simp [h1, h2]

set_option maxHeartbeats 400000 in
theorem ms_call (d : Int) (w : World) (h : d.natAbs < 2 ^ 64) :
    Calls Try.prog 17 #[.int .i64 d] w fun e w' => e = .returned (.float .f64 (msB d)) ∧ w' = w := by
  have hq := fun w => run_float_arith (P := Try.prog) w .quo 22 .f64 _ _ _ (ms_bits d h)
  go_enter Try.func17, Try.ntmps17
  go_wp2
  go_ret
  exact ⟨rfl, rfl⟩
set_option maxHeartbeats 400000 in
theorem zzms_call (d : Int) (w : World) (h : d.natAbs < 2 ^ 64) :
    Calls Try.prog 7 #[.int .i64 d] w fun e w' => e = .returned (.float .f64 (msB d)) ∧ w' = w := by
  go_enter Try.func7, Try.ntmps7
  go_wp2_with (go_at_call 17; refine (ms_call _ _ h).mono ?_; rintro e w' ⟨rfl, rfl⟩)
  go_ret
  exact ⟨rfl, rfl⟩

set_option maxHeartbeats 1000000 in
theorem mono_walk (a b : Int) (w : World) (ha : a.natAbs < 2 ^ 64) (hb : b.natAbs < 2 ^ 64) :
    Calls Try.prog 4 #[.int .i64 a, .int .i64 b] w fun e w' => e = .returned (.bool true) ∧ w' = w := by
  have n1 := ms_neg b hb
  have n2 := ms_neg a ha
  have p1 := ms_pos b hb
  have p2 := ms_pos a ha
  by_cases h : b < a
  · have f1 := ms_le (Int.le_of_lt h) hb ha
    go_enter Try.func4, Try.ntmps4
    go_wp2_with fail
    refine (zzms_call b _ hb).mono ?_
    rintro e w' ⟨rfl, rfl⟩
    go_wp2_with fail
    refine (zzms_call a _ ha).mono ?_
    rintro e w' ⟨rfl, rfl⟩
    go_wp2
    go_ret
    exact ⟨rfl, rfl⟩
  · have f1 := ms_le (Int.not_lt.1 h) ha hb
    go_enter Try.func4, Try.ntmps4
    go_wp2_with fail
    refine (zzms_call a _ ha).mono ?_
    rintro e w' ⟨rfl, rfl⟩
    go_wp2_with fail
    refine (zzms_call b _ hb).mono ?_
    rintro e w' ⟨rfl, rfl⟩
    go_wp2
    go_ret
    exact ⟨rfl, rfl⟩

set_option maxHeartbeats 1000000 in
theorem whole_out (d : Int) (w : World) (h : d < -9007199254740992 ∨ 9007199254740992 < d) :
    Calls Try.prog 3 #[.int .i64 d] w fun e w' => e = .returned (.bool true) ∧ w' = w := by
  by_cases h1 : d < -9007199254740992
  · go_enter Try.func3, Try.ntmps3
    go_wp2
    go_ret
    exact ⟨rfl, rfl⟩
  · have h2 : 9007199254740992 < d := by omega
    clear h
    go_enter Try.func3, Try.ntmps3
    go_wp2
    go_ret
    exact ⟨rfl, rfl⟩
theorem xor_up (r : Nat) (h : r < 2 ^ 63) : r ^^^ 2 ^ 63 = 2 ^ 63 + r := by
  have e1 : 2 ^ 63 + r = 2 ^ 63 ||| r := by simpa using Nat.two_pow_add_eq_or_of_lt h 1
  rw [e1]
  apply Nat.eq_of_testBit_eq
  intro i
  rw [Nat.testBit_xor, Nat.testBit_or, Nat.testBit_two_pow]
  by_cases e : 63 = i
  · subst e
    rw [Nat.testBit_lt_two_pow h]
    rfl
  · simp [e]
theorem xor_down (r : Nat) (h : r < 2 ^ 63) : (2 ^ 63 + r) ^^^ 2 ^ 63 = r := by
  rw [← xor_up r h, Nat.xor_assoc, Nat.xor_self, Nat.xor_zero]
theorem negFloat_word (s : Bool) (r : Nat) (h : r < 2 ^ 63) : Op.negFloat .f64 (double.word s r) = double.word (!s) r := by
  show double.word s r ^^^ 2 ^ 63 = _
  cases s
  · exact xor_up r h
  · exact xor_down r h
theorem ms_odd (d : Int) (h : d.natAbs < 2 ^ 64) : FloatKind.f64.format.order (msB (-d)) (Op.negFloat .f64 (msB d)) = some .eq := by
  have hf := Fl.R_fin d.natAbs h
  have e : Op.negFloat .f64 (msB d) = double.word (!decide (d < 0)) (Fl.R d.natAbs) := negFloat_word _ _ (by omega)
  rw [e]
  have e2 : msB (-d) = double.word (decide (-d < 0)) (Fl.R d.natAbs) := by unfold msB; rw [Int.natAbs_neg]
  rw [e2]
  refine Eq.trans (Fl.order_word _ _ _ _ hf hf) ?_
  congr 1
  refine cmp_eq ?_
  by_cases h0 : d = 0
  · subst h0; decide +kernel
  · by_cases h1 : d < 0
    · have h2 : ¬ 0 < d := by omega
      simp [h1, h2]
    · have h2 : 0 < d := by omega
      simp [h1, h2]

theorem run_neg_float (b : Nat) (w : World) : Sem.run Try.prog (Op.unary UnOp.neg (Value.float FloatKind.f64 b)) w = .ok (.float .f64 (Op.negFloat .f64 b)) w := rfl

theorem fl_word (k : Int) (h : k.natAbs < 2 ^ 64) : floatOfInt .f64 k = double.word (decide (k < 0)) (Fl.fr k.natAbs) := Fl.fl_eq k h

theorem order_ms_fl (d k : Int) (hd : d.natAbs < 2 ^ 64) (hk : k.natAbs < 2 ^ 64) :
    FloatKind.f64.format.order (msB d) (floatOfInt .f64 k) = some (compare (Fl.sv (decide (d < 0)) (Fl.R d.natAbs)) (Fl.sv (decide (k < 0)) (Fl.fr k.natAbs))) := by
  rw [fl_word k hk]
  exact Fl.order_word _ _ _ _ (Fl.R_fin _ hd) (Fl.fr_fin _ hk)
theorem order_fl_ms (d k : Int) (hd : d.natAbs < 2 ^ 64) (hk : k.natAbs < 2 ^ 64) :
    FloatKind.f64.format.order (floatOfInt .f64 k) (msB d) = some (compare (Fl.sv (decide (k < 0)) (Fl.fr k.natAbs)) (Fl.sv (decide (d < 0)) (Fl.R d.natAbs))) := by
  rw [fl_word k hk]
  exact Fl.order_word _ _ _ _ (Fl.fr_fin _ hk) (Fl.R_fin _ hd)

theorem R_of_whole (k : Nat) (h : 1000000 * k ≤ 2 ^ 53) : Fl.R (1000000 * k) = Fl.fr k := by
  by_cases h0 : k = 0
  · subst h0; decide +kernel
  · exact Fl.R_whole k (by omega) h

/-! the facts at d = 10^6 k + r, not negative -/
theorem pos_whole (k : Nat) (h : 1000000 * k ≤ 2 ^ 53) (d : Int) (hd : d = ((1000000 * k : Nat) : Int)) : FloatKind.f64.format.order (msB d) (floatOfInt .f64 (k : Int)) = some .eq := by
  subst hd
  rw [order_ms_fl _ _ (by omega) (by omega)]
  congr 1
  refine cmp_eq ?_
  rw [Int.natAbs_natCast, Int.natAbs_natCast, R_of_whole k h]
  have h1 : ¬ ((1000000 * k : Nat) : Int) < 0 := by omega
  have h2 : ¬ (k : Int) < 0 := by omega
  simp only [h1, h2]
theorem pos_between (k r : Nat) (h0 : 0 < r) (h1 : r < 1000000) (h : 1000000 * k + r ≤ 2 ^ 53) (d : Int) (hd : d = ((1000000 * k + r : Nat) : Int)) :
    FloatKind.f64.format.order (floatOfInt .f64 (k : Int)) (msB d) = some .lt ∧ FloatKind.f64.format.order (msB d) (floatOfInt .f64 ((k + 1 : Nat) : Int)) = some .lt := by
  subst hd
  have hb := Fl.R_between k r h0 h1 h
  have hb1 := Fl.V_lt hb.1
  have hb2 := Fl.V_lt hb.2
  have n1 : ¬ ((1000000 * k + r : Nat) : Int) < 0 := by omega
  have n2 : ¬ (k : Int) < 0 := by omega
  have n3 : ¬ ((k + 1 : Nat) : Int) < 0 := by omega
  rw [order_fl_ms _ _ (by omega) (by omega), order_ms_fl _ _ (by omega) (by omega)]
  rw [Int.natAbs_natCast, Int.natAbs_natCast, Int.natAbs_natCast]
  constructor
  · congr 1
    refine cmp_lt ?_
    simp only [Fl.sv, n1, n2, decide_false, Bool.false_eq_true, if_false]
    omega
  · congr 1
    refine cmp_lt ?_
    simp only [Fl.sv, n1, n3, decide_false, Bool.false_eq_true, if_false]
    omega
/-! the facts at d = - (10^6 k + r), negative -/
theorem neg_whole (k : Nat) (h0 : 0 < k) (h : 1000000 * k ≤ 2 ^ 53) (d q : Int) (hd : d = -((1000000 * k : Nat) : Int)) (hq : q = -(k : Int)) : FloatKind.f64.format.order (msB d) (floatOfInt .f64 q) = some .eq := by
  subst hd hq
  rw [order_ms_fl _ _ (by omega) (by omega)]
  congr 1
  refine cmp_eq ?_
  rw [Int.natAbs_neg, Int.natAbs_neg, Int.natAbs_natCast, Int.natAbs_natCast, R_of_whole k h]
  have h1 : -((1000000 * k : Nat) : Int) < 0 := by omega
  have h2 : -(k : Int) < 0 := by omega
  simp only [h1, h2]
theorem neg_between (k r : Nat) (h0 : 0 < r) (h1 : r < 1000000) (h : 1000000 * k + r ≤ 2 ^ 53) (d q : Int) (hd : d = -((1000000 * k + r : Nat) : Int)) (hq : q = -(k : Int)) :
    FloatKind.f64.format.order (floatOfInt .f64 (q - 1)) (msB d) = some .lt ∧ FloatKind.f64.format.order (msB d) (floatOfInt .f64 q) = some .lt := by
  have hb := Fl.R_between k r h0 h1 h
  have hb1 := Fl.V_lt hb.1
  have hb2 := Fl.V_lt hb.2
  have n1 : d < 0 := by omega
  have n3 : q - 1 < 0 := by omega
  have a1 : d.natAbs = 1000000 * k + r := by omega
  have a2 : q.natAbs = k := by omega
  have a3 : (q - 1).natAbs = k + 1 := by omega
  rw [order_fl_ms _ _ (by omega) (by omega), order_ms_fl _ _ (by omega) (by omega), a1, a2, a3]
  constructor
  · congr 1
    refine cmp_lt ?_
    simp only [Fl.sv, n1, n3, decide_true, if_true]
    omega
  · congr 1
    refine cmp_lt ?_
    by_cases n2 : q < 0
    · simp only [Fl.sv, n1, n2, decide_true, if_true]
      omega
    · simp only [Fl.sv, n1, n2, decide_true, decide_false, Bool.false_eq_true, if_false, if_true]
      omega

set_option maxHeartbeats 1000000 in
theorem whole_pos (d : Int) (w : World) (h0 : 0 ≤ d) (h1 : d ≤ 9007199254740992) :
    Calls Try.prog 3 #[.int .i64 d] w fun e w' => e = .returned (.bool true) ∧ w' = w := by
  have hn := run_neg_float (msB d)
  have ho := ms_odd d (by omega)
  by_cases hr : d % 1000000 = 0
  · have hr' : (d % 1000000 == 0) = true := by simpa using hr
    have f := pos_whole (d / 1000000).toNat (by omega) d (by omega)
    rw [show (((d / 1000000).toNat : Nat) : Int) = d / 1000000 by omega] at f
    clear hr
    go_enter Try.func3, Try.ntmps3
    go_wp2_with fail
    refine (zzms_call d _ (by omega)).mono ?_
    rintro e w' ⟨rfl, rfl⟩
    go_wp2_with fail
    refine (zzms_call (-d) _ (by omega)).mono ?_
    rintro e w' ⟨rfl, rfl⟩
    go_wp2
    go_ret
    exact ⟨rfl, rfl⟩
  · have hr' : (d % 1000000 == 0) = false := by simpa using hr
    have hd : 0 < d := by omega
    have f := pos_between (d / 1000000).toNat (d % 1000000).toNat (by omega) (by omega) (by omega) d (by omega)
    rw [show (((d / 1000000).toNat : Nat) : Int) = d / 1000000 by omega, show (((d / 1000000).toNat + 1 : Nat) : Int) = d / 1000000 + 1 by omega] at f
    obtain ⟨f1, f2⟩ := f
    clear hr
    go_enter Try.func3, Try.ntmps3
    go_wp2_with fail
    refine (zzms_call d _ (by omega)).mono ?_
    rintro e w' ⟨rfl, rfl⟩
    go_wp2_with fail
    refine (zzms_call (-d) _ (by omega)).mono ?_
    rintro e w' ⟨rfl, rfl⟩
    go_wp2
    go_ret
    exact ⟨rfl, rfl⟩

theorem tdiv_neg' (n : Int) (h : 0 ≤ n) : (-n).tdiv 1000000 = -(n / 1000000) ∧ (-n).tmod 1000000 = -(n % 1000000) := by
  rw [Int.neg_tdiv, Int.neg_tmod, Int.tdiv_eq_ediv_of_nonneg h, Int.tmod_eq_emod_of_nonneg h]
  exact ⟨rfl, rfl⟩

set_option maxHeartbeats 1000000 in
theorem whole_neg (d : Int) (w : World) (h0 : d < 0) (h1 : -9007199254740992 ≤ d) :
    Calls Try.prog 3 #[.int .i64 d] w fun e w' => e = .returned (.bool true) ∧ w' = w := by
  have hn := run_neg_float (msB d)
  have ho := ms_odd d (by omega)
  obtain ⟨q1, q2⟩ := tdiv_neg' (-d) (by omega)
  rw [Int.neg_neg] at q1 q2
  have b1 : -9007199256 ≤ d.tdiv 1000000 := by omega
  have b2 : d.tdiv 1000000 ≤ 0 := by omega
  by_cases hr : d.tmod 1000000 = 0
  · have hr' : (d.tmod 1000000 == 0) = true := by simpa using hr
    have f := neg_whole ((-d) / 1000000).toNat (by omega) (by omega) d (d.tdiv 1000000) (by omega) (by omega)
    clear hr q1 q2
    go_enter Try.func3, Try.ntmps3
    go_wp2_with fail
    refine (zzms_call d _ (by omega)).mono ?_
    rintro e w' ⟨rfl, rfl⟩
    go_wp2_with fail
    refine (zzms_call (-d) _ (by omega)).mono ?_
    rintro e w' ⟨rfl, rfl⟩
    go_wp2
    go_ret
    exact ⟨rfl, rfl⟩
  · have hr' : (d.tmod 1000000 == 0) = false := by simpa using hr
    obtain ⟨f1, f2⟩ := neg_between ((-d) / 1000000).toNat ((-d) % 1000000).toNat (by omega) (by omega) (by omega) d (d.tdiv 1000000) (by omega) (by omega)
    clear hr q1 q2
    go_enter Try.func3, Try.ntmps3
    go_wp2_with fail
    refine (zzms_call d _ (by omega)).mono ?_
    rintro e w' ⟨rfl, rfl⟩
    go_wp2_with fail
    refine (zzms_call (-d) _ (by omega)).mono ?_
    rintro e w' ⟨rfl, rfl⟩
    go_wp2
    go_ret
    exact ⟨rfl, rfl⟩

theorem whole_walk (d : Int) (w : World) : Calls Try.prog 3 #[.int .i64 d] w fun e w' => e = .returned (.bool true) ∧ w' = w := by
  by_cases h : d < -9007199254740992 ∨ 9007199254740992 < d
  · exact whole_out d w h
  · by_cases h0 : d < 0
    · exact whole_neg d w h0 (by omega)
    · exact whole_pos d w (by omega) (by omega)
end Go.Proofs.Qxb6613595a
