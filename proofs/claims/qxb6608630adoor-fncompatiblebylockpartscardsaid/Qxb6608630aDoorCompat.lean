import Derived.Test.Qxb6608630aDoorProg
import Derived.WalkKit
import Derived.WalkSpells
import Derived.WalkLawsBesides
namespace Go.Proofs.Qxb6608630aDoor
open Go.RowKit

/-- '(modeSet).has': bit m of s. -/
def hasB (s m : Int) : Bool := bits BinOp.and IntKind.u16 s (IntKind.u16.wrap (2 ^ min m.toNat 16)) != 0

set_option maxHeartbeats 400000 in
theorem has_any (s m : Int) (w : World) (h0 : 0 ≤ m) :
    Calls Tryd.prog 40 #[.int .u16 s, .int .u8 m] w fun e w' => e = .returned (.bool (hasB s m)) ∧ w' = w := by
  go_enter Tryd.func40, Tryd.ntmps40
  go_wp2
  go_ret
  exact ⟨rfl, rfl⟩

set_option maxHeartbeats 400000 in
theorem compat_any (a b s : Int) (w : World) (h0 : 0 ≤ a) (h1 : a < 10) (hb : 0 ≤ b) (hc : w.cell? ⟨0, a.toNat * 4 + 1, none⟩ = some (.int .u16 s)) :
    Calls Tryd.prog 30 #[.int .u8 a, .int .u8 b] w fun e w' => e = .returned (.bool (hasB s b)) ∧ w' = w := by
  go_enter Tryd.func30, Tryd.ntmps30
  go_wp2_with (go_at_call 40; refine (has_any _ _ _ hb).mono ?_; rintro e w' ⟨rfl, rfl⟩)
  go_ret
  exact ⟨rfl, rfl⟩

set_option maxHeartbeats 400000 in
theorem zzcompat_any (a b s : Int) (w : World) (h0 : 0 ≤ a) (h1 : a < 10) (hb : 0 ≤ b) (hc : w.cell? ⟨0, a.toNat * 4 + 1, none⟩ = some (.int .u16 s)) :
    Calls Tryd.prog 9 #[.int .u8 a, .int .u8 b] w fun e w' => e = .returned (.bool (hasB s b)) ∧ w' = w := by
  go_enter Tryd.func9, Tryd.ntmps9
  go_wp2_with (go_at_call 30; refine (compat_any _ _ _ _ h0 h1 hb hc).mono ?_; rintro e w' ⟨rfl, rfl⟩)
  go_ret
  exact ⟨rfl, rfl⟩

theorem of_nat {p : Int → Prop} (h : ∀ n : Nat, n < 256 → p n) (r : Int) (h0 : 0 ≤ r) (h1 : r ≤ 255) : p r := by
  obtain ⟨n, rfl⟩ := Int.eq_ofNat_of_zero_le h0
  exact h n (by omega)
theorem snk_eq (r : Int) (h0 : 0 ≤ r) (h1 : r ≤ 255) : hasB 226 r = (hasB 746 r && hasB 486 r) :=
  of_nat (p := fun r => hasB 226 r = (hasB 746 r && hasB 486 r)) (by decide +kernel) r h0 h1
theorem xnk_eq (r : Int) (h0 : 0 ≤ r) (h1 : r ≤ 255) : hasB 96 r = (hasB 608 r && hasB 486 r) :=
  of_nat (p := fun r => hasB 96 r = (hasB 608 r && hasB 486 r)) (by decide +kernel) r h0 h1
theorem ii_eq (r : Int) (h0 : 0 ≤ r) (h1 : r ≤ 255) : hasB 998 r = ((r == 1 || r == 2) || (decide (5 ≤ r) && decide (r ≤ 9))) :=
  of_nat (p := fun r => hasB 998 r = ((r == 1 || r == 2) || (decide (5 ≤ r) && decide (r ≤ 9)))) (by decide +kernel) r h0 h1

set_option maxHeartbeats 1000000 in
theorem nextKey_any (r : Int) (w : World) (h0 : 0 ≤ r) (h1 : r ≤ 255)
    (c1 : w.cell? ⟨0, 5, none⟩ = some (.int .u16 746)) (c2 : w.cell? ⟨0, 9, none⟩ = some (.int .u16 608))
    (c5 : w.cell? ⟨0, 21, none⟩ = some (.int .u16 486)) (c6 : w.cell? ⟨0, 25, none⟩ = some (.int .u16 486))
    (c7 : w.cell? ⟨0, 29, none⟩ = some (.int .u16 226)) (c8 : w.cell? ⟨0, 33, none⟩ = some (.int .u16 96))
    (c9 : w.cell? ⟨0, 37, none⟩ = some (.int .u16 998)) :
    Calls Tryd.prog 3 #[.int .u8 r] w fun e w' => e = .returned (.bool true) ∧ w' = w := by
  go_enter Tryd.func3, Tryd.ntmps3
  go_wp2_with fail
  refine (zzcompat_any 1 r 746 _ (by decide) (by decide) h0 c1).mono ?_
  rintro e w' ⟨rfl, rfl⟩
  go_wp2_with fail
  refine (zzcompat_any 2 r 608 _ (by decide) (by decide) h0 c2).mono ?_
  rintro e w' ⟨rfl, rfl⟩
  go_wp2_with fail
  refine (zzcompat_any 5 r 486 _ (by decide) (by decide) h0 c5).mono ?_
  rintro e w' ⟨rfl, rfl⟩
  go_wp2_with fail
  refine (zzcompat_any 6 r 486 _ (by decide) (by decide) h0 c6).mono ?_
  rintro e w' ⟨rfl, rfl⟩
  go_wp2_with fail
  refine (zzcompat_any 7 r 226 _ (by decide) (by decide) h0 c7).mono ?_
  rintro e w' ⟨rfl, rfl⟩
  go_wp2_with fail
  refine (zzcompat_any 8 r 96 _ (by decide) (by decide) h0 c8).mono ?_
  rintro e w' ⟨rfl, rfl⟩
  go_wp2_with fail
  refine (zzcompat_any 9 r 998 _ (by decide) (by decide) h0 c9).mono ?_
  rintro e w' ⟨rfl, rfl⟩
  clear c1 c2 c5 c6 c7 c8 c9
  have f1 := snk_eq r h0 h1
  have f2 := xnk_eq r h0 h1
  have f3 := ii_eq r h0 h1
  go_wp2
  all_goals
    go_ret
    first | exact ⟨rfl, rfl⟩ | (refine ⟨?_, rfl⟩; simp [*])
end Go.Proofs.Qxb6608630aDoor
