import Derived.Test.Qxb6613595aObsShift
namespace Go.Proofs.Qxb6613595a
open Go.RowKit Go.MuLone

set_option maxRecDepth 20000 in
set_option maxHeartbeats 2000000 in
theorem shift_big (a0 a1 a2 a3 a8 : Int) (p4 p5 p6 p7 : Option Addr) (l4 c4 l5 c5 l6 c6 l7 c7 : Nat) (w : World) (h4 : l4 ≤ maxLen) (h5 : l5 ≤ maxLen) (h6 : l6 ≤ maxLen) (h7 : l7 ≤ maxLen)
    (h : ¬ (l4 ≤ 4096 ∧ l5 ≤ 4096 ∧ l6 ≤ 4096 ∧ l7 ≤ 4096)) :
    Calls Try.prog 6 #[.int .i64 a0, .int .i64 a1, .int .i64 a2, .int .i64 a3, .slice p4 l4 c4, .slice p5 l5 c5, .slice p6 l6 c6, .slice p7 l7 c7, .int .i64 a8] w fun e w' => e = .returned (.bool true) ∧ w' = w := by
  have HBY : Hid _ := fun w => bytes16_any a0 a1 a2 a3 a8 p4 p5 p6 p7 l4 c4 l5 c5 l6 c6 l7 c7 w h4 h5 h6 h7
  unfold maxLen at h4 h5 h6 h7
  go_enter Try.func6, Try.ntmps6
  go_wp2_with fail
  refine (HBY.out _).mono ?_
  rintro e w' ⟨bb, rfl, rfl⟩
  cases bb
  · go_wp2
    go_ret
    exact ⟨rfl, rfl⟩
  by_cases g4 : 4096 < l4
  · go_wp2
    go_ret
    exact ⟨rfl, rfl⟩
  · by_cases g5 : 4096 < l5
    · go_wp2
      go_ret
      exact ⟨rfl, rfl⟩
    · by_cases g6 : 4096 < l6
      · go_wp2
        go_ret
        exact ⟨rfl, rfl⟩
      · have g7 : 4096 < l7 := by omega
        clear h
        go_wp2
        go_ret
        exact ⟨rfl, rfl⟩

set_option maxRecDepth 20000 in
set_option maxHeartbeats 2000000 in
theorem shift_c (a0 a1 a2 a3 a8 : Int) (p4 p5 p6 p7 : Option Addr) (l4 c4 l5 c5 l6 c6 l7 c7 : Nat) (w : World) (h4 : l4 ≤ 4096) (h5 : l5 ≤ 4096) (h6 : l6 ≤ 4096) (h7 : l7 ≤ 4096)
    (h : a8 < 0 ∨ 1152921504606846976 < a8) :
    Calls Try.prog 6 #[.int .i64 a0, .int .i64 a1, .int .i64 a2, .int .i64 a3, .slice p4 l4 c4, .slice p5 l5 c5, .slice p6 l6 c6, .slice p7 l7 c7, .int .i64 a8] w fun e w' => e = .returned (.bool true) ∧ w' = w := by
  have HBY : Hid _ := fun w => bytes16_any a0 a1 a2 a3 a8 p4 p5 p6 p7 l4 c4 l5 c5 l6 c6 l7 c7 w (by unfold maxLen; omega) (by unfold maxLen; omega) (by unfold maxLen; omega) (by unfold maxLen; omega)
  go_enter Try.func6, Try.ntmps6
  go_wp2_with fail
  refine (HBY.out _).mono ?_
  rintro e w' ⟨bb, rfl, rfl⟩
  cases bb
  · go_wp2
    go_ret
    exact ⟨rfl, rfl⟩
  by_cases g8 : a8 < 0
  · go_wp2
    go_ret
    exact ⟨rfl, rfl⟩
  · have g9 : 1152921504606846976 < a8 := by omega
    clear h
    go_wp2
    go_ret
    exact ⟨rfl, rfl⟩

set_option maxRecDepth 20000 in
set_option maxHeartbeats 2000000 in
theorem shift_odd (a0 a1 a2 a3 a8 : Int) (p4 p5 p6 p7 : Option Addr) (l4 c4 l5 c5 l6 c6 l7 c7 : Nat) (w : World) (h4 : l4 ≤ 4096) (h5 : l5 ≤ 4096) (h6 : l6 ≤ 4096) (h7 : l7 ≤ 4096)
    (h : ¬ (0 < l4 ∧ l5 = l4 ∧ l6 = l4 ∧ l7 = l4)) (g8 : 0 ≤ a8) (g9 : a8 ≤ 1152921504606846976) :
    Calls Try.prog 6 #[.int .i64 a0, .int .i64 a1, .int .i64 a2, .int .i64 a3, .slice p4 l4 c4, .slice p5 l5 c5, .slice p6 l6 c6, .slice p7 l7 c7, .int .i64 a8] w fun e w' => e = .returned (.bool true) ∧ w' = w := by
  have HBY : Hid _ := fun w => bytes16_any a0 a1 a2 a3 a8 p4 p5 p6 p7 l4 c4 l5 c5 l6 c6 l7 c7 w (by unfold maxLen; omega) (by unfold maxLen; omega) (by unfold maxLen; omega) (by unfold maxLen; omega)
  have HP : Hid _ := fun w => premise_bad a0 a1 a2 a3 1152921504606846976 p4 p5 p6 p7 l4 c4 l5 c5 l6 c6 l7 c7 w h4 h5 h6 h7 h
  clear h
  go_enter Try.func6, Try.ntmps6
  go_wp2_with fail
  refine (HBY.out _).mono ?_
  rintro e w' ⟨bb, rfl, rfl⟩
  cases bb
  · go_wp2
    go_ret
    exact ⟨rfl, rfl⟩
  go_wp2_with fail
  refine (HP.out _).mono ?_
  rintro e w' ⟨rfl, rfl⟩
  go_wp2
  go_ret
  exact ⟨rfl, rfl⟩

theorem shift_walk (a0 a1 a2 a3 a8 : Int) (p4 p5 p6 p7 : Option Addr) (l4 c4 l5 c5 l6 c6 l7 c7 : Nat) (z4 z5 z6 z7 : List Int) (w : World)
    (w4 : InRow w p4 l4 c4 z4) (w5 : InRow w p5 l5 c5 z5) (w6 : InRow w p6 l6 c6 z6) (w7 : InRow w p7 l7 c7 z7) :
    Calls Try.prog 6 #[.int .i64 a0, .int .i64 a1, .int .i64 a2, .int .i64 a3, .slice p4 l4 c4, .slice p5 l5 c5, .slice p6 l6 c6, .slice p7 l7 c7, .int .i64 a8] w fun e w' => e = .returned (.bool true) ∧ Below w.heap.size w w' := by
  by_cases h : l4 ≤ 4096 ∧ l5 ≤ 4096 ∧ l6 ≤ 4096 ∧ l7 ≤ 4096
  · obtain ⟨h4, h5, h6, h7⟩ := h
    by_cases gc : a8 < 0 ∨ 1152921504606846976 < a8
    · exact (shift_c a0 a1 a2 a3 a8 p4 p5 p6 p7 l4 c4 l5 c5 l6 c6 l7 c7 w h4 h5 h6 h7 gc).mono fun _ _ ⟨h1, h2⟩ => ⟨h1, h2 ▸ Below.refl _ _⟩
    · by_cases g : 0 < l4 ∧ l5 = l4 ∧ l6 = l4 ∧ l7 = l4
      · obtain ⟨g0, rfl, rfl, rfl⟩ := g
        obtain ⟨b4, o4, rfl, k4, r4⟩ := w4.open g0
        obtain ⟨b5, o5, rfl, k5, r5⟩ := w5.open g0
        obtain ⟨b6, o6, rfl, k6, r6⟩ := w6.open g0
        obtain ⟨b7, o7, rfl, k7, r7⟩ := w7.open g0
        exact shift_rows a0 a1 a2 a3 a8 _ b4 o4 c4 b5 o5 c5 b6 o6 c6 b7 o7 c7 (fun i => z4.getD i 0) (fun i => z5.getD i 0) (fun i => z6.getD i 0) (fun i => z7.getD i 0) w g0 h4 (by omega) (by omega) k4 k5 k6 k7 r4 r5 r6 r7
      · exact (shift_odd a0 a1 a2 a3 a8 p4 p5 p6 p7 l4 c4 l5 c5 l6 c6 l7 c7 w h4 h5 h6 h7 g (by omega) (by omega)).mono fun _ _ ⟨h1, h2⟩ => ⟨h1, h2 ▸ Below.refl _ _⟩
  · exact (shift_big a0 a1 a2 a3 a8 p4 p5 p6 p7 l4 c4 l5 c5 l6 c6 l7 c7 w w4.le w5.le w6.le w7.le h).mono fun _ _ ⟨h1, h2⟩ => ⟨h1, h2 ▸ Below.refl _ _⟩
end Go.Proofs.Qxb6613595a
