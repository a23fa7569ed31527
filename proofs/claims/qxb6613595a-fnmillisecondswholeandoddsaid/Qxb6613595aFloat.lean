import Ieee.Arith
namespace Go.Proofs.Qxb6613595a.Fl
open Ieee
set_option exponentiation.threshold 3000

/-! THE PLAIN LAW: 'float64(n) / 1e6' over the exact words of IEEE 754's double. -/

theorem cut_even (neg : Bool) (n d : Nat) :
    2 * 2 ^ d * Toward.even.cut neg n d ≤ 2 * n + 2 ^ d ∧ 2 * n ≤ 2 * 2 ^ d * Toward.even.cut neg n d + 2 ^ d := by
  have hcore : ∀ g : Nat, 0 < g → ∀ c, c = n / g + (decide (g < 2 * (n % g)) || (g == 2 * (n % g) && n / g % 2 == 1)).toNat →
      2 * g * c ≤ 2 * n + g ∧ 2 * n ≤ 2 * g * c + g := by
    intro g hg c hc
    have hdm := Nat.div_add_mod n g
    have hlt := Nat.mod_lt n hg
    generalize n / g = low at *
    generalize n % g = rest at *
    have e : 2 * g * low = 2 * (g * low) := by rw [Nat.mul_assoc]
    by_cases hm : (decide (g < 2 * rest) || (g == 2 * rest && low % 2 == 1)) = true
    · rw [hm] at hc
      have hge : g ≤ 2 * rest := by
        rw [Bool.or_eq_true, Bool.and_eq_true, decide_eq_true_eq, beq_iff_eq] at hm
        omega
      have hc' : c = low + 1 := hc
      rw [hc', Nat.mul_add, e]
      omega
    · rw [Bool.not_eq_true] at hm
      rw [hm] at hc
      have hle : 2 * rest ≤ g := by
        rw [Bool.or_eq_false_iff, decide_eq_false_iff_not] at hm
        omega
      have hc' : c = low := hc
      rw [hc', e]
      omega
  by_cases hd : d ≤ n.log2 + 2
  · have := hcore (2 ^ d) (Nat.two_pow_pos d) (Toward.even.cut neg n d) (by
      simp only [Toward.cut, Nat.min_eq_left hd, Nat.shiftLeft_eq, Nat.one_mul])
    exact this
  · have hg := Nat.min_eq_right (Nat.le_of_lt (Nat.lt_of_not_le hd))
    have hlt : n < 2 ^ (n.log2 + 1) := Nat.lt_log2_self
    have hc : Toward.even.cut neg n d = 0 := by
      simp only [Toward.cut, hg, Nat.shiftLeft_eq, Nat.one_mul]
      have h4 : 2 ^ (n.log2 + 2) = 2 * 2 ^ (n.log2 + 1) := by rw [Nat.pow_succ, Nat.mul_comm]
      have h5 : n / 2 ^ (n.log2 + 2) = 0 := Nat.div_eq_of_lt (by omega)
      have h6 : n % 2 ^ (n.log2 + 2) = n := Nat.mod_eq_of_lt (by omega)
      rw [h5, h6]
      have h7 : ¬ 2 ^ (n.log2 + 2) < 2 * n := by omega
      simp [h7]
    rw [hc]
    have h9 : 2 ^ (n.log2 + 1) ≤ 2 ^ (d - 1) := Nat.pow_le_pow_right (by decide) (by omega)
    have h10 : 2 ^ d = 2 * 2 ^ (d - 1) := by
      rw [show d = (d - 1) + 1 by omega, Nat.pow_succ, Nat.mul_comm]; simp
    omega

theorem cut_neg (neg neg' : Bool) (n d : Nat) : Toward.even.cut neg n d = Toward.even.cut neg' n d := rfl

theorem cut_mono (neg : Bool) (d : Nat) {n m : Nat} (h : n ≤ m) : Toward.even.cut neg n d ≤ Toward.even.cut neg m d := by
  by_cases he : n = m
  · rw [he]; exact Nat.le_refl _
  · have h1 := cut_even neg n d
    have h2 := cut_even neg m d
    generalize Toward.even.cut neg n d = a at *
    generalize Toward.even.cut neg m d = b at *
    have hp := Nat.two_pow_pos d
    by_cases hab : a ≤ b
    · exact hab
    · exfalso
      have h3 : 2 * 2 ^ d * (b + 1) ≤ 2 * 2 ^ d * a := Nat.mul_le_mul_left _ (by omega)
      rw [Nat.mul_add] at h3
      omega

theorem cut_zero (neg : Bool) (n : Nat) : Toward.even.cut neg n 0 = n := by
  have h := cut_even neg n 0
  simp at h
  omega

/-! ### Words and their order -/
/-- What the rung r stands for, in units of 2^-1074. -/
def V (r : Nat) : Nat := if r < 2 ^ 52 then r else (2 ^ 52 + r % 2 ^ 52) * 2 ^ (r / 2 ^ 52 - 1)

theorem V_mk (t k : Nat) (h1 : 2 ^ 52 ≤ k) (h2 : k ≤ 2 ^ 53) : V (t * 2 ^ 52 + k) = k * 2 ^ t := by
  unfold V
  have p : 0 < 2 ^ 52 := Nat.two_pow_pos _
  have e53 : 2 ^ 53 = 2 ^ 52 + 2 ^ 52 := by decide
  rw [if_neg (by omega)]
  by_cases hk : k = 2 ^ 53
  · subst hk
    have e : t * 2 ^ 52 + 2 ^ 53 = (t + 2) * 2 ^ 52 := by rw [Nat.add_mul]
    rw [e, Nat.mul_mod_left, Nat.mul_div_left _ p]
    show (2 ^ 52 + 0) * 2 ^ (t + 1) = _
    rw [Nat.add_zero, e53, Nat.add_mul, Nat.pow_succ 2 t, ← Nat.mul_assoc]
    omega
  · have e : t * 2 ^ 52 + k = (t + 1) * 2 ^ 52 + (k - 2 ^ 52) := by rw [Nat.add_mul]; omega
    have hlt : k - 2 ^ 52 < 2 ^ 52 := by omega
    rw [e, Nat.add_comm ((t + 1) * 2 ^ 52), Nat.add_mul_mod_self_right, Nat.add_mul_div_right _ _ p, Nat.mod_eq_of_lt hlt, Nat.div_eq_of_lt hlt]
    rw [show 2 ^ 52 + (k - 2 ^ 52) = k by omega, show 0 + (t + 1) - 1 = t by omega]

theorem V_lt_succ (r : Nat) : V r < V (r + 1) := by
  have e53 : 2 ^ 53 = 2 ^ 52 + 2 ^ 52 := by decide
  by_cases h : r + 1 < 2 ^ 52
  · unfold V
    rw [if_pos (by omega), if_pos h]
    omega
  · by_cases h2 : r < 2 ^ 52
    · have e : r + 1 = 0 * 2 ^ 52 + (r + 1) := by omega
      rw [e, V_mk 0 (r + 1) (by omega) (by omega)]
      unfold V
      rw [if_pos h2]
      omega
    · have hdm := Nat.div_add_mod r (2 ^ 52)
      have hlt := Nat.mod_lt r (Nat.two_pow_pos 52)
      have hq : 1 ≤ r / 2 ^ 52 := (Nat.le_div_iff_mul_le (Nat.two_pow_pos 52)).2 (by omega)
      obtain ⟨t, ht⟩ : ∃ t, r / 2 ^ 52 = t + 1 := ⟨r / 2 ^ 52 - 1, by omega⟩
      rw [ht] at hdm
      rw [Nat.mul_comm, Nat.add_mul] at hdm
      have e1 : r = t * 2 ^ 52 + (2 ^ 52 + r % 2 ^ 52) := by omega
      have e2 : r + 1 = t * 2 ^ 52 + (2 ^ 52 + r % 2 ^ 52 + 1) := by omega
      rw [e2, V_mk t _ (by omega) (by omega)]
      rw [show V r = V (t * 2 ^ 52 + (2 ^ 52 + r % 2 ^ 52)) from congrArg V e1, V_mk t _ (by omega) (by omega)]
      exact Nat.mul_lt_mul_of_pos_right (by omega) (Nat.two_pow_pos t)

theorem V_lt {a b : Nat} (h : a < b) : V a < V b := by
  induction b with
  | zero => omega
  | succ b ih =>
    by_cases e : a = b
    · subst e; exact V_lt_succ a
    · exact Nat.lt_trans (ih (by omega)) (V_lt_succ b)

theorem V_lt_iff {a b : Nat} : V a < V b ↔ a < b := by
  constructor
  · intro h
    by_cases hab : a < b
    · exact hab
    · exfalso
      by_cases e : a = b
      · subst e; omega
      · have := V_lt (show b < a by omega); omega
  · exact V_lt
theorem V_zero : V 0 = 0 := rfl

theorem sw : double.signWeight = 2 ^ 63 := by decide
theorem bn : double.binade = 2 ^ 52 := by decide
theorem ir : double.infRung = 2047 * 2 ^ 52 := by decide
theorem lp : double.leastPlace = -1074 := by decide

theorem word_div (neg : Bool) (r : Nat) (h : r < 2 ^ 63) : double.word neg r % 2 ^ 63 = r ∧ (double.word neg r / 2 ^ 63 % 2 == 1) = neg := by
  unfold Format.word
  rw [sw]
  cases neg
  · simp only [Bool.false_eq_true, if_false]
    rw [Nat.mod_eq_of_lt h, Nat.div_eq_of_lt h]
    exact ⟨rfl, rfl⟩
  · simp only [if_true]
    rw [Nat.add_mod_left, Nat.mod_eq_of_lt h, Nat.add_div_left _ (by decide), Nat.div_eq_of_lt h]
    exact ⟨rfl, rfl⟩

theorem read_small (neg : Bool) (r : Nat) (h : r < 2 ^ 52) : double.read (double.word neg r) = .number neg r (-1074) := by
  obtain ⟨h1, h2⟩ := word_div neg r (by omega)
  unfold Format.read
  simp only [sw, bn, lp, h1, h2]
  rw [if_pos h]

theorem read_norm (neg : Bool) (t m : Nat) (h1 : 2 ^ 52 ≤ m) (h2 : m < 2 ^ 53) (h3 : t ≤ 2045) :
    double.read (double.word neg (t * 2 ^ 52 + m)) = .number neg m (-1074 + (t : Int)) := by
  have p : 0 < 2 ^ 52 := Nat.two_pow_pos _
  obtain ⟨e1, e2⟩ := word_div neg (t * 2 ^ 52 + m) (by omega)
  have e : t * 2 ^ 52 + m = (m - 2 ^ 52) + (t + 1) * 2 ^ 52 := by rw [Nat.add_mul]; omega
  have hlt : m - 2 ^ 52 < 2 ^ 52 := by omega
  unfold Format.read
  simp only [sw, bn, lp, ir, e1, e2]
  rw [if_neg (by omega), if_pos (by omega)]
  rw [e, Nat.add_mul_mod_self_right, Nat.add_mul_div_right _ _ p, Nat.mod_eq_of_lt hlt, Nat.div_eq_of_lt hlt]
  rw [show 2 ^ 52 + (m - 2 ^ 52) = m by omega, show 0 + (t + 1) - 1 = t by omega]

/-- A rung of a normal number, taken apart. -/
theorem norm_parts (r : Nat) (h1 : 2 ^ 52 ≤ r) : ∃ t m, 2 ^ 52 ≤ m ∧ m < 2 ^ 53 ∧ r = t * 2 ^ 52 + m := by
  have hdm := Nat.div_add_mod r (2 ^ 52)
  have hlt := Nat.mod_lt r (Nat.two_pow_pos 52)
  have hq : 1 ≤ r / 2 ^ 52 := (Nat.le_div_iff_mul_le (Nat.two_pow_pos 52)).2 (by omega)
  refine ⟨r / 2 ^ 52 - 1, 2 ^ 52 + r % 2 ^ 52, by omega, by omega, ?_⟩
  rw [Nat.sub_mul]
  omega

/-- What a word of sign s and rung a stands for, in units of 2^-1074. -/
def sv (s : Bool) (a : Nat) : Int := if s then -(V a : Int) else V a

theorem read_any (neg : Bool) (r : Nat) (h : r < 2047 * 2 ^ 52) : ∃ m t, double.read (double.word neg r) = .number neg m (-1074 + (t : Nat)) ∧ V r = m * 2 ^ t := by
  by_cases h1 : r < 2 ^ 52
  · exact ⟨r, 0, by rw [read_small neg r h1]; simp, by unfold V; rw [if_pos h1]; simp⟩
  · obtain ⟨t, m, a, b, rfl⟩ := norm_parts r (by omega)
    exact ⟨m, t, read_norm neg t m a b (by omega), V_mk t m a (by omega)⟩

theorem cmp_mul (x y c : Int) (h : 0 < c) : compare (x * c) (y * c) = compare x y := by
  simp only [compare, compareOfLessAndEq]
  have e1 : x * c < y * c ↔ x < y := ⟨fun k => Int.lt_of_mul_lt_mul_right k (Int.le_of_lt h), fun k => Int.mul_lt_mul_of_pos_right k h⟩
  have e2 : x * c = y * c ↔ x = y := ⟨fun k => Int.eq_of_mul_eq_mul_right (Int.ne_of_gt h) k, fun k => by rw [k]⟩
  simp only [e1, e2]

theorem signed_mul (s : Bool) (m k j : Nat) : signed s m k * ((2 ^ j : Nat) : Int) = if s then -((m * 2 ^ (k + j) : Nat) : Int) else ((m * 2 ^ (k + j) : Nat) : Int) := by
  unfold signed
  rw [Nat.shiftLeft_eq]
  cases s
  · simp only [Bool.false_eq_true, if_false]
    rw [← Int.natCast_mul, Nat.mul_assoc, ← Nat.pow_add]
  · simp only [if_true]
    rw [Int.neg_mul, ← Int.natCast_mul, Nat.mul_assoc, ← Nat.pow_add]

theorem order_word (s t : Bool) (a b : Nat) (ha : a < 2047 * 2 ^ 52) (hb : b < 2047 * 2 ^ 52) :
    double.order (double.word s a) (double.word t b) = some (compare (sv s a) (sv t b)) := by
  obtain ⟨m, i, hr, hv⟩ := read_any s a ha
  obtain ⟨n, j, hr', hv'⟩ := read_any t b hb
  unfold Format.order
  rw [hr, hr']
  simp only [Datum.order]
  have hi : (-1074 + (i : Int) - min (-1074 + (i : Int)) (-1074 + (j : Int))).toNat = i - min i j := by omega
  have hj : (-1074 + (j : Int) - min (-1074 + (i : Int)) (-1074 + (j : Int))).toNat = j - min i j := by omega
  rw [hi, hj]
  have hp : (0 : Int) < ((2 ^ min i j : Nat) : Int) := by exact_mod_cast Nat.two_pow_pos _
  rw [← cmp_mul _ _ _ hp, signed_mul, signed_mul, show i - min i j + min i j = i by omega, show j - min i j + min i j = j by omega, ← hv, ← hv']
  rfl

/-! ### Rounding to the nearest word -/
/-- The digits that are kept of mag. -/
def keep (mag : Nat) : Nat := if 52 ≤ mag.log2 then Toward.even.cut false mag (mag.log2 - 52) else mag * 2 ^ (52 - mag.log2)

theorem keep_bounds (mag : Nat) (h : 0 < mag) : 2 ^ 52 ≤ keep mag ∧ keep mag ≤ 2 ^ 53 := by
  have hne : mag ≠ 0 := by omega
  have lo : 2 ^ mag.log2 ≤ mag := Nat.log2_self_le hne
  have hi : mag < 2 ^ (mag.log2 + 1) := Nat.lt_log2_self
  unfold keep
  by_cases hL : 52 ≤ mag.log2
  · rw [if_pos hL]
    have hc := cut_even false mag (mag.log2 - 52)
    generalize Toward.even.cut false mag (mag.log2 - 52) = c at *
    obtain ⟨d, hd⟩ : ∃ d, mag.log2 = 52 + d := ⟨mag.log2 - 52, by omega⟩
    rw [hd] at lo hi hc
    rw [show 52 + d - 52 = d by omega] at hc
    have hp := Nat.two_pow_pos d
    rw [Nat.pow_add] at lo
    rw [show 52 + d + 1 = 53 + d by omega, Nat.pow_add] at hi
    generalize 2 ^ d = g at *
    constructor
    · by_cases hx : 2 ^ 52 ≤ c
      · exact hx
      · exfalso
        have : 2 * g * c ≤ 2 * g * (2 ^ 52 - 1) := Nat.mul_le_mul_left _ (by omega)
        omega
    · by_cases hx : c ≤ 2 ^ 53
      · exact hx
      · exfalso
        have : 2 * g * (2 ^ 53 + 1) ≤ 2 * g * c := Nat.mul_le_mul_left _ (by omega)
        omega
  · rw [if_neg hL]
    have hp := Nat.two_pow_pos (52 - mag.log2)
    have e1 : 2 ^ mag.log2 * 2 ^ (52 - mag.log2) = 2 ^ 52 := by rw [← Nat.pow_add]; congr 1; omega
    have e2 : 2 ^ (mag.log2 + 1) * 2 ^ (52 - mag.log2) = 2 ^ 53 := by rw [← Nat.pow_add]; congr 1; omega
    constructor
    · rw [← e1]; exact Nat.mul_le_mul_right _ lo
    · rw [← e2]; exact Nat.mul_le_mul_right _ (Nat.le_of_lt hi)

theorem nearest_eq (neg : Bool) (mag : Nat) (place : Int) (t : Nat) (hm : 0 < mag) (ht : place + (mag.log2 : Int) - 52 = -1074 + (t : Int)) (hlt : t ≤ 2000) :
    double.nearest neg mag place = double.word neg (t * 2 ^ 52 + keep mag) := by
  have hk := keep_bounds mag hm
  unfold Format.nearest
  rw [if_neg (by omega)]
  have hlast : max (place + (mag.log2 : Int) - ((double.fractionBits : Nat) : Int)) double.leastPlace = -1074 + (t : Int) := by
    rw [lp, show ((double.fractionBits : Nat) : Int) = 52 from rfl]
    omega
  simp only [hlast]
  have e1 : (-1074 + (t : Int) - double.leastPlace).toNat = t := by rw [lp]; omega
  have e2 : (place - (-1074 + (t : Int))).toNat = 52 - mag.log2 := by omega
  have e3 : (-1074 + (t : Int) - place).toNat = mag.log2 - 52 := by omega
  rw [e1, e2, e3, bn, ir]
  have e4 : Toward.even.cut neg (mag <<< (52 - mag.log2)) (mag.log2 - 52) = keep mag := by
    unfold keep
    by_cases hL : 52 ≤ mag.log2
    · rw [if_pos hL, show 52 - mag.log2 = 0 by omega]
      rfl
    · rw [if_neg hL, show mag.log2 - 52 = 0 by omega, cut_zero, Nat.shiftLeft_eq]
  rw [e4, Nat.min_eq_left (by omega)]

/-- 'float64(n)', n whole and not negative: its rung. -/
def fr (n : Nat) : Nat := if n = 0 then 0 else (n.log2 + 1022) * 2 ^ 52 + keep n

theorem log2_le (n b : Nat) (h : n < 2 ^ (b + 1)) : n.log2 ≤ b := by
  by_cases h0 : n = 0
  · subst h0; simp
  · have := (Nat.log2_lt h0).2 h
    omega

theorem fl_eq (n : Int) (h : n.natAbs < 2 ^ 64) : double.nearest (decide (n < 0)) n.natAbs 0 = double.word (decide (n < 0)) (fr n.natAbs) := by
  unfold fr
  by_cases h0 : n.natAbs = 0
  · rw [if_pos h0]
    unfold Format.nearest
    rw [if_pos h0]
  · rw [if_neg h0]
    have := log2_le n.natAbs 63 h
    exact nearest_eq _ _ 0 _ (by omega) (by omega) (by omega)

theorem fr_le (n : Nat) (h : n < 2 ^ 64) : fr n ≤ 1087 * 2 ^ 52 := by
  unfold fr
  by_cases h0 : n = 0
  · rw [if_pos h0]; omega
  · rw [if_neg h0]
    have h1 := keep_bounds n (by omega)
    have h2 := log2_le n 63 h
    omega

theorem fr_pos (n : Nat) (h : 0 < n) : 1023 * 2 ^ 52 ≤ fr n := by
  unfold fr
  rw [if_neg (by omega)]
  have h1 := keep_bounds n h
  omega

theorem keep_mono {n m : Nat} (h : n ≤ m) (e : n.log2 = m.log2) : keep n ≤ keep m := by
  unfold keep
  rw [e]
  by_cases hL : 52 ≤ m.log2
  · rw [if_pos hL, if_pos hL]; exact cut_mono _ _ h
  · rw [if_neg hL, if_neg hL]; exact Nat.mul_le_mul_right _ h

theorem log2_mono {n m : Nat} (h : n ≤ m) : n.log2 ≤ m.log2 := by
  have h1 : m < 2 ^ (m.log2 + 1) := Nat.lt_log2_self
  exact log2_le n _ (Nat.lt_of_le_of_lt h h1)

theorem fr_mono {n m : Nat} (h : n ≤ m) : fr n ≤ fr m := by
  by_cases h0 : n = 0
  · subst h0; exact Nat.zero_le _
  · unfold fr
    rw [if_neg h0, if_neg (by omega)]
    have h1 := keep_bounds n (by omega)
    have h2 := keep_bounds m (by omega)
    have h3 := log2_mono h
    by_cases e : n.log2 = m.log2
    · have := keep_mono h e
      rw [e]
      omega
    · omega

/-! ### The quotient by 1e6 -/
theorem read_million : double.read 4696837146684686336 = .number false 8589934592000000 (-33) := by decide +kernel

theorem log2_of (n b : Nat) (h1 : 2 ^ b ≤ n) (h2 : n < 2 ^ (b + 1)) : n.log2 = b := by
  have h0 : n ≠ 0 := by have := Nat.two_pow_pos b; omega
  have h3 := log2_le n b h2
  have h4 := (Nat.le_log2 h0).2 h1
  omega

/-- The quotient's digits, and one more that is 1 where anything is left over. -/
def qd (m : Nat) : Nat := 2 * (18014398509481984 * m / 8589934592000000) + if 18014398509481984 * m % 8589934592000000 = 0 then 0 else 1

theorem qd_cases (m : Nat) : (qd m = 2 * (18014398509481984 * m / 8589934592000000) ∧ 18014398509481984 * m % 8589934592000000 = 0) ∨ (qd m = 2 * (18014398509481984 * m / 8589934592000000) + 1 ∧ ¬ 18014398509481984 * m % 8589934592000000 = 0) := by
  unfold qd
  generalize 18014398509481984 * m % 8589934592000000 = r
  by_cases h : r = 0
  · rw [if_pos h]; exact Or.inl ⟨rfl, h⟩
  · rw [if_neg h]; exact Or.inr ⟨rfl, h⟩

theorem div_eq (neg : Bool) (t m : Nat) (h1 : 2 ^ 52 ≤ m) (h2 : m < 2 ^ 53) (h3 : t ≤ 2000) :
    double.div (double.word neg (t * 2 ^ 52 + m)) 4696837146684686336 = some (double.nearest neg (qd m) (-1096 + (t : Int))) := by
  unfold Format.div
  rw [read_norm neg t m h1 h2 (by omega), read_million]
  simp only [Datum.quotient]
  rw [if_neg (by decide)]
  have hl : m.log2 = 52 := log2_of m 52 h1 h2
  have hn : (8589934592000000 : Nat).log2 = 52 := log2_of _ 52 (by decide) (by decide)
  have hmore : double.fractionBits + 2 + (8589934592000000 : Nat).log2 - m.log2 = 54 := by rw [hl, hn]; decide
  rw [hmore]
  have hq : 2 * (m <<< 54 / 8589934592000000) + (m <<< 54 % 8589934592000000 != 0).toNat = qd m := by
    unfold qd
    rw [Nat.shiftLeft_eq, show (2 : Nat) ^ 54 = 18014398509481984 from by decide, Nat.mul_comm m]
    generalize 18014398509481984 * m % 8589934592000000 = r
    by_cases h : r = 0
    · rw [if_pos h, h]; rfl
    · rw [if_neg h]
      have : (r != 0) = true := by simpa using h
      rw [this]; rfl
  rw [hq]
  have hpl : (-1074 + (t : Int) - -33 - ((54 : Nat) : Int) - 1) = -1096 + (t : Int) := by omega
  rw [hpl]
  simp only [Option.map_some, Format.write, Bool.xor_false]

theorem qd_bounds (m : Nat) (h1 : 2 ^ 52 ≤ m) (h2 : m < 2 ^ 53) : 2 ^ 54 ≤ qd m ∧ qd m < 2 ^ 56 := by
  rcases qd_cases m with ⟨e, h⟩ | ⟨e, h⟩ <;> rw [e] <;> omega

theorem qd_mono {a b : Nat} (h : a ≤ b) : qd a ≤ qd b := by
  rcases qd_cases a with ⟨e, _⟩ | ⟨e, _⟩ <;> rcases qd_cases b with ⟨f, _⟩ | ⟨f, _⟩ <;> rw [e, f] <;> omega

/-- The rung of the quotient by 1e6 of the float whose rung is r. -/
def dr (r : Nat) : Nat := if r < 2 ^ 52 then 0 else
  (r / 2 ^ 52 - 1 + (qd (2 ^ 52 + r % 2 ^ 52)).log2 - 74) * 2 ^ 52 + keep (qd (2 ^ 52 + r % 2 ^ 52))

theorem dr_mk (t m : Nat) (h1 : 2 ^ 52 ≤ m) (h2 : m < 2 ^ 53) : dr (t * 2 ^ 52 + m) = (t + (qd m).log2 - 74) * 2 ^ 52 + keep (qd m) := by
  have p : 0 < 2 ^ 52 := Nat.two_pow_pos _
  have e : t * 2 ^ 52 + m = (m - 2 ^ 52) + (t + 1) * 2 ^ 52 := by rw [Nat.add_mul]; omega
  have hlt : m - 2 ^ 52 < 2 ^ 52 := by omega
  unfold dr
  rw [if_neg (by omega), e, Nat.add_mul_mod_self_right, Nat.add_mul_div_right _ _ p, Nat.mod_eq_of_lt hlt, Nat.div_eq_of_lt hlt]
  rw [show 2 ^ 52 + (m - 2 ^ 52) = m by omega, show 0 + (t + 1) - 1 = t by omega]

theorem qd_log (m : Nat) (h1 : 2 ^ 52 ≤ m) (h2 : m < 2 ^ 53) : ((qd m).log2 = 54 ∧ qd m < 2 ^ 55) ∨ ((qd m).log2 = 55 ∧ 2 ^ 55 ≤ qd m) := by
  have hb := qd_bounds m h1 h2
  by_cases h : qd m < 2 ^ 55
  · exact Or.inl ⟨log2_of _ 54 hb.1 h, h⟩
  · exact Or.inr ⟨log2_of _ 55 (by omega) hb.2, by omega⟩

theorem div_word (neg : Bool) (r : Nat) (h1 : 1000 * 2 ^ 52 ≤ r) (h2 : r ≤ 1087 * 2 ^ 52) :
    double.div (double.word neg r) 4696837146684686336 = some (double.word neg (dr r)) := by
  obtain ⟨t, m, a, b, rfl⟩ := norm_parts r (by omega)
  have hb := qd_bounds m a b
  rw [div_eq neg t m a b (by omega), dr_mk t m a b]
  rw [nearest_eq neg (qd m) (-1096 + (t : Int)) (t + (qd m).log2 - 74) (by omega) (by rcases qd_log m a b with h | h <;> omega) (by rcases qd_log m a b with h | h <;> omega)]

theorem dr_le (r : Nat) (h1 : 1000 * 2 ^ 52 ≤ r) (h2 : r ≤ 1087 * 2 ^ 52) : 2 ^ 52 ≤ dr r ∧ dr r < 2047 * 2 ^ 52 := by
  obtain ⟨t, m, a, b, rfl⟩ := norm_parts r (by omega)
  have hb := qd_bounds m a b
  have hk := keep_bounds (qd m) (by omega)
  rw [dr_mk t m a b]
  rcases qd_log m a b with h | h <;> rw [h.1] <;> omega

theorem keep_54 (q : Nat) (h : q.log2 = 54) : 8 * keep q ≤ 2 * q + 4 ∧ 2 * q ≤ 8 * keep q + 4 := by
  unfold keep
  rw [h, if_pos (by decide)]
  have := cut_even false q 2
  simpa using this
theorem keep_55 (q : Nat) (h : q.log2 = 55) : 16 * keep q ≤ 2 * q + 8 ∧ 2 * q ≤ 16 * keep q + 8 := by
  unfold keep
  rw [h, if_pos (by decide)]
  have := cut_even false q 3
  simpa using this

theorem lex (B t t' m m' : Nat) (h1 : B ≤ m) (h4 : m' < 2 * B) (h : t * B + m ≤ t' * B + m') : t ≤ t' := by
  by_cases e : t ≤ t'
  · exact e
  · exfalso
    have : (t' + 1) * B ≤ t * B := Nat.mul_le_mul_right _ (by omega)
    rw [Nat.add_mul] at this
    omega
theorem up (B a a' k k' : Nat) (h : a + 1 ≤ a') (h1 : k ≤ 2 * B) (h2 : B ≤ k') : a * B + k ≤ a' * B + k' := by
  have : (a + 1) * B ≤ a' * B := Nat.mul_le_mul_right _ h
  rw [Nat.add_mul] at this
  omega

theorem dr_mono {r r' : Nat} (h1 : 1000 * 2 ^ 52 ≤ r) (h : r ≤ r') : dr r ≤ dr r' := by
  obtain ⟨t, m, a, b, rfl⟩ := norm_parts r (by omega)
  obtain ⟨t', m', a', b', rfl⟩ := norm_parts r' (by omega)
  rw [dr_mk t m a b, dr_mk t' m' a' b']
  have hb := qd_bounds m a b
  have hb' := qd_bounds m' a' b'
  have hk := keep_bounds (qd m) (by omega)
  have hk' := keep_bounds (qd m') (by omega)
  have hl := qd_log m a b
  have hl' := qd_log m' a' b'
  have ht0 : 900 ≤ t := by omega
  have hle : t ≤ t' := lex (2 ^ 52) t t' m m' a (by omega) h
  have hq : t = t' → qd m ≤ qd m' := fun e => qd_mono (by subst e; omega)
  clear h h1
  rcases hl with ⟨e, hl⟩ | ⟨e, hl⟩ <;> rcases hl' with ⟨e', hl'⟩ | ⟨e', hl'⟩
  · by_cases ht : t = t'
    · have := keep_mono (hq ht) (by rw [e, e'])
      rw [e, e', ht]
      exact Nat.add_le_add_left this _
    · rw [e, e']
      exact up _ _ _ _ _ (by omega) (by omega) (by omega)
  · rw [e, e']
    exact up _ _ _ _ _ (by omega) (by omega) (by omega)
  · by_cases ht : t = t'
    · have := hq ht
      omega
    · by_cases ht2 : t + 1 = t'
      · have e1 := keep_55 (qd m) e
        have e2 := keep_54 (qd m') e'
        have f1 : qd m ≤ 37778931862957157 := by
          have := qd_mono (show m ≤ 2 ^ 53 - 1 by omega)
          rwa [show qd (2 ^ 53 - 1) = 37778931862957157 by decide +kernel] at this
        have f2 : 18889465931478581 ≤ qd m' := by
          have := qd_mono a'
          rwa [show qd (2 ^ 52) = 18889465931478581 by decide +kernel] at this
        rw [e, e', show t + 55 - 74 = t' + 54 - 74 by omega]
        exact Nat.add_le_add_left (by omega) _
      · rw [e, e']
        exact up _ _ _ _ _ (by omega) (by omega) (by omega)
  · by_cases ht : t = t'
    · have := keep_mono (hq ht) (by rw [e, e'])
      rw [e, e', ht]
      exact Nat.add_le_add_left this _
    · rw [e, e']
      exact up _ _ _ _ _ (by omega) (by omega) (by omega)

/-! ### 'milliseconds': float64(d) / 1e6 -/
/-- The rung of 'float64(n) / 1e6'. -/
def R (n : Nat) : Nat := dr (fr n)

theorem R_zero : R 0 = 0 := by decide +kernel

theorem ms_eq (d : Int) (h : d.natAbs < 2 ^ 64) :
    double.div (double.nearest (decide (d < 0)) d.natAbs 0) 4696837146684686336 = some (double.word (decide (d < 0)) (R d.natAbs)) := by
  rw [fl_eq d h]
  unfold R
  by_cases h0 : d.natAbs = 0
  · have : d = 0 := by omega
    subst this
    decide +kernel
  · have h1 := fr_pos d.natAbs (by omega)
    have h2 := fr_le d.natAbs h
    exact div_word _ _ (by omega) h2

theorem R_pos (n : Nat) (h0 : 0 < n) (h : n < 2 ^ 64) : 0 < R n := by
  have h1 := fr_pos n h0
  have h2 := fr_le n h
  have := (dr_le (fr n) (by omega) h2).1
  unfold R
  omega

theorem R_fin (n : Nat) (h : n < 2 ^ 64) : R n < 2047 * 2 ^ 52 := by
  by_cases h0 : n = 0
  · subst h0; rw [R_zero]; omega
  · have h1 := fr_pos n (by omega)
    have h2 := fr_le n h
    exact (dr_le (fr n) (by omega) h2).2

theorem R_mono {n m : Nat} (h : n ≤ m) : R n ≤ R m := by
  by_cases h0 : n = 0
  · subst h0; rw [R_zero]; exact Nat.zero_le _
  · have h1 := fr_pos n (by omega)
    exact dr_mono (by omega) (fr_mono h)

theorem fr_fin (n : Nat) (h : n < 2 ^ 64) : fr n < 2047 * 2 ^ 52 := by
  have := fr_le n h
  omega

/-- Up to 2^53 'float64(n)' is exact. -/
theorem V_fr (n : Nat) (h : n ≤ 2 ^ 53) : V (fr n) = n * 2 ^ 1074 := by
  by_cases h0 : n = 0
  · subst h0; rw [show fr 0 = 0 from rfl, V_zero, Nat.zero_mul]
  · have hk := keep_bounds n (by omega)
    unfold fr
    rw [if_neg h0, V_mk _ _ hk.1 hk.2]
    by_cases h53 : n = 2 ^ 53
    · subst h53
      have e : (2 ^ 53 : Nat).log2 = 53 := log2_of _ 53 (by decide) (by decide)
      have ek : keep (2 ^ 53) = 2 ^ 52 := by
        unfold keep
        rw [e, if_pos (by decide), show 53 - 52 = 1 from rfl]
        have := cut_even false (2 ^ 53) 1
        omega
      rw [ek, e, ← Nat.pow_add]
    · have hl := log2_le n 52 (by omega)
      have ek : keep n = n * 2 ^ (52 - n.log2) := by
        unfold keep
        by_cases hL : 52 ≤ n.log2
        · rw [if_pos hL, show n.log2 - 52 = 0 by omega, show 52 - n.log2 = 0 by omega, cut_zero, Nat.pow_zero, Nat.mul_one]
        · rw [if_neg hL]
      rw [ek, Nat.mul_assoc, ← Nat.pow_add, show 52 - n.log2 + (n.log2 + 1022) = 1074 by omega]

theorem qd_small (m : Nat) : (qd m = 2 * (32768 * m / 15625) ∧ 32768 * m % 15625 = 0) ∨ (qd m = 2 * (32768 * m / 15625) + 1 ∧ ¬ 32768 * m % 15625 = 0) := by
  have e1 : 18014398509481984 * m / 8589934592000000 = 32768 * m / 15625 := by
    rw [show 18014398509481984 * m = 549755813888 * (32768 * m) by rw [← Nat.mul_assoc], show 8589934592000000 = 549755813888 * 15625 by decide, Nat.mul_div_mul_left _ _ (by decide)]
  have e2 : 18014398509481984 * m % 8589934592000000 = 549755813888 * (32768 * m % 15625) := by
    rw [show 18014398509481984 * m = 549755813888 * (32768 * m) by rw [← Nat.mul_assoc], show 8589934592000000 = 549755813888 * 15625 by decide, Nat.mul_mod_mul_left]
  rcases qd_cases m with ⟨e, h⟩ | ⟨e, h⟩
  · exact Or.inl ⟨by rw [e, e1], by omega⟩
  · exact Or.inr ⟨by rw [e, e1], by omega⟩

/-- m, n = 10^6 k + r and the quotient's digits, in numbers: 2 m = n Z, P = k Z, Q = r Z. -/
theorem core54 (m P Q Z c : Nat) (h : 2 * m = 1000000 * P + Q) (c1 : 8 * c ≤ 2 * qd m + 4) (c2 : 2 * qd m ≤ 8 * c + 4) :
    (Q = 0 → c = 524288 * P) ∧ (1 ≤ Z → Z ≤ Q → Q + Z ≤ 1000000 * Z → 524288 * P < c ∧ c < 524288 * (P + Z)) := by
  have e : 32768 * m = 15625 * (1048576 * P) + 16384 * Q := by omega
  have e1 : 32768 * m / 15625 = 1048576 * P + 16384 * Q / 15625 := by rw [e]; omega
  have e2 : 32768 * m % 15625 = 16384 * Q % 15625 := by rw [e]; omega
  rcases qd_small m with ⟨f, g⟩ | ⟨f, g⟩
  · rw [e1] at f; rw [e2] at g
    generalize qd m = q at *
    clear e e1 e2 h
    exact ⟨fun hQ => by omega, fun h1 h2 h3 => by omega⟩
  · rw [e1] at f; rw [e2] at g
    generalize qd m = q at *
    clear e e1 e2 h
    exact ⟨fun hQ => by omega, fun h1 h2 h3 => by omega⟩

theorem core55 (m P Q Z c : Nat) (h : 2 * m = 1000000 * P + Q) (c1 : 16 * c ≤ 2 * qd m + 8) (c2 : 2 * qd m ≤ 16 * c + 8) :
    (Q = 0 → c = 262144 * P) ∧ (2 ≤ Z → Z ≤ Q → Q + Z ≤ 1000000 * Z → 262144 * P < c ∧ c < 262144 * (P + Z)) := by
  have e : 32768 * m = 15625 * (1048576 * P) + 16384 * Q := by omega
  have e1 : 32768 * m / 15625 = 1048576 * P + 16384 * Q / 15625 := by rw [e]; omega
  have e2 : 32768 * m % 15625 = 16384 * Q % 15625 := by rw [e]; omega
  rcases qd_small m with ⟨f, g⟩ | ⟨f, g⟩
  · rw [e1] at f; rw [e2] at g
    generalize qd m = q at *
    clear e e1 e2 h
    exact ⟨fun hQ => by omega, fun h1 h2 h3 => by omega⟩
  · rw [e1] at f; rw [e2] at g
    generalize qd m = q at *
    clear e e1 e2 h
    exact ⟨fun hQ => by omega, fun h1 h2 h3 => by omega⟩

/-- 'float64(n) / 1e6' of an n up to 2^53, in numbers: a Z (a power of two) such that the rung's value times Z is whole multiples of one unit. -/
theorem R_parts (n : Nat) (h0 : 0 < n) (h : n ≤ 2 ^ 53) :
    ∃ m Z z c : Nat, Z = 2 ^ z ∧ 2 * m = n * Z ∧ 2 ^ 52 ≤ m ∧ m < 2 ^ 53 ∧
      (((qd m).log2 = 54 ∧ c = keep (qd m) ∧ V (R n) * Z = c * 2 ^ 1055) ∨ ((qd m).log2 = 55 ∧ 2 ^ 55 ≤ qd m ∧ c = keep (qd m) ∧ V (R n) * Z = c * 2 ^ 1056)) := by
  have hv := V_fr n h
  have h1 := fr_pos n h0
  have h2 : fr n ≤ fr (2 ^ 53) := fr_mono h
  have e53 : fr (2 ^ 53) = 1075 * 2 ^ 52 + 2 ^ 52 := by decide +kernel
  obtain ⟨t, m, a, b, e⟩ := norm_parts (fr n) (by omega)
  have ht : t ≤ 1075 := lex (2 ^ 52) t 1075 m (2 ^ 52) a (by omega) (by rw [← e, ← e53]; exact h2)
  have ht0 : 900 ≤ t := by omega
  rw [e, V_mk t m a (by omega)] at hv
  have hb := qd_bounds m a b
  have hk := keep_bounds (qd m) (by omega)
  have hR : V (R n) = keep (qd m) * 2 ^ (t + (qd m).log2 - 74) := by
    unfold R
    rw [e, dr_mk t m a b, V_mk _ _ hk.1 hk.2]
  obtain ⟨z, hz⟩ : ∃ z, t + z = 1075 := ⟨1075 - t, by omega⟩
  have hZ : 2 * m = n * 2 ^ z := by
    have e1 : m * 2 ^ t * 2 ^ z = m * 2 * 2 ^ 1074 := by
      rw [Nat.mul_assoc, ← Nat.pow_add, hz, show (1075 : Nat) = 1074 + 1 from rfl, Nat.pow_succ, Nat.mul_comm (2 ^ 1074) 2, ← Nat.mul_assoc]
    rw [hv, Nat.mul_assoc, Nat.mul_comm (2 ^ 1074), ← Nat.mul_assoc] at e1
    have := Nat.eq_of_mul_eq_mul_right (Nat.two_pow_pos 1074) e1
    rw [this, Nat.mul_comm]
  refine ⟨m, 2 ^ z, z, keep (qd m), rfl, hZ, a, b, ?_⟩
  rcases qd_log m a b with ⟨hl, _⟩ | ⟨hl, hl2⟩
  · refine Or.inl ⟨hl, rfl, ?_⟩
    rw [hR, hl, Nat.mul_assoc, ← Nat.pow_add, show t + 54 - 74 + z = 1055 by omega]
  · refine Or.inr ⟨hl, hl2, rfl, ?_⟩
    rw [hR, hl, Nat.mul_assoc, ← Nat.pow_add, show t + 55 - 74 + z = 1056 by omega]

theorem pow_split (x Z : Nat) : x * 2 ^ 1074 * Z = 524288 * (x * Z) * 2 ^ 1055 := by
  have e : (2 : Nat) ^ 1074 = 524288 * 2 ^ 1055 := by
    rw [show (1074 : Nat) = 19 + 1055 from rfl, Nat.pow_add]
  rw [e, Nat.mul_right_comm, ← Nat.mul_assoc, Nat.mul_comm (x * Z)]
theorem pow_split' (x Z : Nat) : x * 2 ^ 1074 * Z = 262144 * (x * Z) * 2 ^ 1056 := by
  have e : (2 : Nat) ^ 1074 = 262144 * 2 ^ 1056 := by
    rw [show (1074 : Nat) = 18 + 1056 from rfl, Nat.pow_add]
  rw [e, Nat.mul_right_comm, ← Nat.mul_assoc, Nat.mul_comm (x * Z)]

theorem V_inj {a b : Nat} (h : V a = V b) : a = b := by
  have h1 := @V_lt_iff a b
  have h2 := @V_lt_iff b a
  omega

/-- WHOLE MILLISECONDS ARE EXACT. -/
theorem R_whole (k : Nat) (h0 : 0 < k) (h : 1000000 * k ≤ 2 ^ 53) : R (1000000 * k) = fr k := by
  obtain ⟨m, Z, z, c, eZ, hm, a, b, hc⟩ := R_parts (1000000 * k) (by omega) h
  have hp : 0 < Z := by rw [eZ]; exact Nat.two_pow_pos z
  have hm' : 2 * m = 1000000 * (k * Z) + 0 := by rw [hm, Nat.mul_assoc]; rfl
  apply V_inj
  apply Nat.eq_of_mul_eq_mul_right hp
  rw [V_fr k (by omega)]
  rcases hc with ⟨hl, rfl, hv⟩ | ⟨hl, _, rfl, hv⟩
  · have e := keep_54 _ hl
    have := (core54 m (k * Z) 0 Z _ hm' e.1 e.2).1 rfl
    rw [hv, this, pow_split]
  · have e := keep_55 _ hl
    have := (core55 m (k * Z) 0 Z _ hm' e.1 e.2).1 rfl
    rw [hv, this, pow_split']

/-- BETWEEN TWO WHOLE MILLISECONDS THE QUOTIENT LIES STRICTLY BETWEEN. -/
theorem R_between (k r : Nat) (h0 : 0 < r) (h1 : r < 1000000) (h : 1000000 * k + r ≤ 2 ^ 53) : fr k < R (1000000 * k + r) ∧ R (1000000 * k + r) < fr (k + 1) := by
  obtain ⟨m, Z, z, c, eZ, hm, a, b, hc⟩ := R_parts (1000000 * k + r) (by omega) h
  have hp : 0 < Z := by rw [eZ]; exact Nat.two_pow_pos z
  have hm' : 2 * m = 1000000 * (k * Z) + r * Z := by rw [hm, Nat.add_mul, Nat.mul_assoc]
  have q1 : Z ≤ r * Z := Nat.le_mul_of_pos_left Z h0
  have q2 : r * Z + Z ≤ 1000000 * Z := by
    have : (r + 1) * Z ≤ 1000000 * Z := Nat.mul_le_mul_right _ (by omega)
    rwa [Nat.add_mul, Nat.one_mul] at this
  have ek : (k + 1) * Z = k * Z + Z := by rw [Nat.add_mul, Nat.one_mul]
  rw [← @V_lt_iff (fr k), ← @V_lt_iff (R (1000000 * k + r)), V_fr k (by omega), V_fr (k + 1) (by omega)]
  rw [← Nat.mul_lt_mul_right hp, ← @Nat.mul_lt_mul_right Z (V (R (1000000 * k + r))) _ hp]
  rcases hc with ⟨hl, rfl, hv⟩ | ⟨hl, hl2, rfl, hv⟩
  · have e := keep_54 _ hl
    have := (core54 m (k * Z) (r * Z) Z _ hm' e.1 e.2).2 hp q1 q2
    rw [hv, pow_split, pow_split, ek]
    exact ⟨Nat.mul_lt_mul_of_pos_right this.1 (Nat.two_pow_pos _), Nat.mul_lt_mul_of_pos_right this.2 (Nat.two_pow_pos _)⟩
  · have e := keep_55 _ hl
    have hZ2 : 2 ≤ Z := by
      by_cases hZ1 : 2 ≤ Z
      · exact hZ1
      · exfalso
        have : Z = 1 := by omega
        subst this
        have hm52 : m ≤ 2 ^ 52 := by omega
        have := qd_mono hm52
        rw [show qd (2 ^ 52) = 18889465931478581 by decide +kernel] at this
        omega
    have := (core55 m (k * Z) (r * Z) Z _ hm' e.1 e.2).2 hZ2 q1 q2
    rw [hv, pow_split', pow_split', ek]
    exact ⟨Nat.mul_lt_mul_of_pos_right this.1 (Nat.two_pow_pos _), Nat.mul_lt_mul_of_pos_right this.2 (Nat.two_pow_pos _)⟩
end Go.Proofs.Qxb6613595a.Fl
