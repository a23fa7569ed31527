import Derived.Test.Qxb6608630aDoorCompat
import Derived.Deep.Light
namespace Go.Proofs.Qxb6608630aDoor
open Go.RowKit

def scopeV (m : Int) : Int := if (m == 1 || m == 2) = true then 3 else if (m == 3 || m == 4) = true then 1 else if (m == 5 || m == 6 || m == 7 || m == 8 || m == 9) = true then 2 else 0
def keyV (m : Int) : Int := if (m == 1 || m == 7) = true then 1 else if (m == 2 || m == 8) = true then 2 else if (m == 3) = true then 3 else if (m == 4) = true then 4 else 0
def gapB (m : Int) : Bool := decide (5 ≤ m) && decide (m ≤ 8)
def agreeB (p q : Int) : Bool :=
  if (p == 0 || q == 0) = true then true else if (p == 2 || q == 2) = true then false else if ((p == 1 && q == 4) || (p == 4 && q == 1)) = true then false else true
def partsB (a b : Int) : Bool :=
  if (a == 0 || b == 0) = true then false
  else if (bits BinOp.and IntKind.u8 (scopeV a) (scopeV b) == 0) = true then false
  else if (!agreeB (keyV a) (keyV b)) = true then false
  else if (gapB a && b == 9) = true then false else true

set_option maxHeartbeats 400000 in
theorem scope_any (m : Int) (w : World) :
    Calls Tryd.prog 31 #[.int .u8 m] w fun e w' => e = .returned (.int .u8 (scopeV m)) ∧ w' = w := by
  go_enter Tryd.func31, Tryd.ntmps31
  go_wp2
  all_goals
    go_ret
    refine ⟨?_, rfl⟩
    simp [scopeV, *]
set_option maxHeartbeats 400000 in
theorem key_any (m : Int) (w : World) :
    Calls Tryd.prog 33 #[.int .u8 m] w fun e w' => e = .returned (.int .u8 (keyV m)) ∧ w' = w := by
  go_enter Tryd.func33, Tryd.ntmps33
  go_wp2
  all_goals
    go_ret
    refine ⟨?_, rfl⟩
    simp [keyV, *]
set_option maxHeartbeats 400000 in
theorem gap_any (m : Int) (w : World) :
    Calls Tryd.prog 34 #[.int .u8 m] w fun e w' => e = .returned (.bool (gapB m)) ∧ w' = w := by
  go_enter Tryd.func34, Tryd.ntmps34
  go_wp2
  all_goals
    go_ret
    refine ⟨?_, rfl⟩
    simp [gapB, *]
  all_goals omega
set_option maxHeartbeats 400000 in
theorem agree_any (p q : Int) (w : World) :
    Calls Tryd.prog 32 #[.int .u8 p, .int .u8 q] w fun e w' => e = .returned (.bool (agreeB p q)) ∧ w' = w := by
  go_enter Tryd.func32, Tryd.ntmps32
  go_wp2
  all_goals
    go_ret
    refine ⟨?_, rfl⟩
    go_light
    simp_all [agreeB]
    try omega
set_option maxHeartbeats 400000 in
theorem parts_any (a b : Int) (w : World) (h0 : 0 ≤ a) (h1 : a < 10) (h2 : 0 ≤ b) (h3 : b < 10) :
    Calls Tryd.prog 10 #[.int .u8 a, .int .u8 b] w fun e w' => e = .returned (.bool (partsB a b)) ∧ w' = w := by
  go_enter Tryd.func10, Tryd.ntmps10
  go_wp2_with (first
    | (go_at_call 31; refine (scope_any _ _).mono ?_; rintro e w' ⟨rfl, rfl⟩)
    | (go_at_call 32; refine (agree_any _ _ _).mono ?_; rintro e w' ⟨rfl, rfl⟩)
    | (go_at_call 33; refine (key_any _ _).mono ?_; rintro e w' ⟨rfl, rfl⟩)
    | (go_at_call 34; refine (gap_any _ _).mono ?_; rintro e w' ⟨rfl, rfl⟩))
  all_goals
    go_ret
    refine ⟨?_, rfl⟩
    first | (simp [partsB, *]; done) | (go_light; simp_all; omega)

/-- modeRules' column 'compatible'. -/
def tab (a : Int) : Int := if a = 1 then 746 else if a = 2 then 608 else if a = 3 then 26 else if a = 4 then 24 else if a = 5 then 486 else if a = 6 then 486 else if a = 7 then 226 else if a = 8 then 96 else if a = 9 then 998 else 0

theorem tab_parts (a b : Int) (h0 : 0 ≤ a) (h1 : a < 10) (h2 : 0 ≤ b) (h3 : b < 10) : hasB (tab a) b = partsB a b := by
  obtain ⟨n, rfl⟩ := Int.eq_ofNat_of_zero_le h0
  obtain ⟨m, rfl⟩ := Int.eq_ofNat_of_zero_le h2
  have h : ∀ n : Nat, n < 10 → ∀ m : Nat, m < 10 → hasB (tab n) m = partsB n m := by decide +kernel
  exact h n (by omega) m (by omega)
theorem parts_symm (a b : Int) (h0 : 0 ≤ a) (h1 : a < 9) (h2 : 0 ≤ b) (h3 : b < 9) : partsB a b = partsB b a := by
  obtain ⟨n, rfl⟩ := Int.eq_ofNat_of_zero_le h0
  obtain ⟨m, rfl⟩ := Int.eq_ofNat_of_zero_le h2
  have h : ∀ n : Nat, n < 9 → ∀ m : Nat, m < 9 → partsB n m = partsB m n := by decide +kernel
  exact h n (by omega) m (by omega)

set_option maxHeartbeats 400000 in
theorem byParts_out (a b : Int) (w : World) (h : 10 ≤ a ∨ 10 ≤ b) :
    Calls Tryd.prog 4 #[.int .u8 a, .int .u8 b] w fun e w' => e = .returned (.bool true) ∧ w' = w := by
  by_cases ha : 10 ≤ a
  · go_enter Tryd.func4, Tryd.ntmps4
    go_wp2
    go_ret
    exact ⟨rfl, rfl⟩
  · have hb : 10 ≤ b := by omega
    clear h
    go_enter Tryd.func4, Tryd.ntmps4
    go_wp2
    go_ret
    exact ⟨rfl, rfl⟩

set_option maxHeartbeats 1000000 in
theorem byParts_in (a b : Int) (w : World) (h0 : 0 ≤ a) (h1 : a < 10) (h2 : 0 ≤ b) (h3 : b < 10)
    (ca : w.cell? ⟨0, a.toNat * 4 + 1, none⟩ = some (.int .u16 (tab a))) (cb : w.cell? ⟨0, b.toNat * 4 + 1, none⟩ = some (.int .u16 (tab b))) :
    Calls Tryd.prog 4 #[.int .u8 a, .int .u8 b] w fun e w' => e = .returned (.bool true) ∧ w' = w := by
  go_enter Tryd.func4, Tryd.ntmps4
  go_wp2_with fail
  refine (zzcompat_any a b (tab a) _ h0 h1 h2 ca).mono ?_
  rintro e w' ⟨rfl, rfl⟩
  rw [tab_parts a b h0 h1 h2 h3]
  go_wp2_with fail
  refine (zzcompat_any b a (tab b) _ h2 h3 h0 cb).mono ?_
  rintro e w' ⟨rfl, rfl⟩
  rw [tab_parts b a h2 h3 h0 h1]
  clear ca cb
  go_wp2_with fail
  refine (parts_any a b _ h0 h1 h2 h3).mono ?_
  rintro e w' ⟨rfl, rfl⟩
  go_wp2_with fail
  refine (parts_any b a _ h2 h3 h0 h1).mono ?_
  rintro e w' ⟨rfl, rfl⟩
  go_wp2
  all_goals first
    | (go_ret; exact ⟨rfl, rfl⟩)
    | (exfalso; have hs := parts_symm a b h0 (by omega) h2 (by omega); go_light; simp_all)

theorem byParts_any (a b : Int) (w : World) (h0 : 0 ≤ a) (h2 : 0 ≤ b) (hc : ∀ i : Nat, i < 10 → w.cell? ⟨0, i * 4 + 1, none⟩ = some (.int .u16 (tab i))) :
    Calls Tryd.prog 4 #[.int .u8 a, .int .u8 b] w fun e w' => e = .returned (.bool true) ∧ w' = w := by
  by_cases h : 10 ≤ a ∨ 10 ≤ b
  · exact byParts_out a b w h
  · obtain ⟨n, rfl⟩ := Int.eq_ofNat_of_zero_le h0
    obtain ⟨m, rfl⟩ := Int.eq_ofNat_of_zero_le h2
    exact byParts_in n m w h0 (by omega) h2 (by omega) (hc n (by omega)) (hc m (by omega))
end Go.Proofs.Qxb6608630aDoor
