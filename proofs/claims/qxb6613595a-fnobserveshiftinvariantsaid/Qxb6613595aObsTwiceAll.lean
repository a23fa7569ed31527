import Derived.Test.Qxb6613595aObsTwice
namespace Go.Proofs.Qxb6613595a
open Go.RowKit Go.MuLone

/-- What is known of a slice of int64 that came in. -/
def InRow (w : World) (a : Option Addr) (len cap : Nat) (zs : List Int) : Prop :=
  (a = none ∧ len = 0 ∧ cap = 0 ∧ zs = []) ∨
  ∃ x, a = some x ∧ len ≤ cap ∧ cap ≤ maxLen ∧ zs.length = cap ∧ (∀ i, i < zs.length → w.cell? (x.add i) = some (.int .i64 (zs.getD i 0))) ∧ ∀ n ∈ zs, (Lit.int .i64 n).wf = true

theorem InRow.le {w : World} {a : Option Addr} {len cap : Nat} {zs : List Int} (h : InRow w a len cap zs) : len ≤ maxLen := by
  rcases h with ⟨_, h, _, _⟩ | ⟨_, _, h1, h2, _⟩
  · omega
  · omega

theorem InRow.open {w : World} {a : Option Addr} {len cap : Nat} {zs : List Int} (h : InRow w a len cap zs) (h0 : 0 < len) :
    ∃ b o, a = some ⟨b, o, none⟩ ∧ b < w.heap.size ∧ ∀ i, i < len → w.cell? ⟨b, o + i, none⟩ = some (.int .i64 (zs.getD i 0)) := by
  rcases h with ⟨_, h, _, _⟩ | ⟨x, rfl, h1, _, h3, h4, _⟩
  · omega
  · obtain ⟨b, o, spot⟩ := x
    have hc := h4 0 (by omega)
    have hspot : spot = none := by simpa [Addr.add] using World.cell?_spot hc
    subst hspot
    refine ⟨b, o, rfl, ?_, fun i hi => ?_⟩
    · have := World.block_lt_of_cell? w _ hc
      simpa [Addr.add] using this
    · have e : Addr.add ⟨b, o, none⟩ i = ⟨b, o + i, none⟩ := by unfold Addr.add; split <;> simp_all
      rw [← e]
      exact h4 i (by omega)

set_option maxRecDepth 20000 in
set_option maxHeartbeats 2000000 in
theorem twice_big (a0 a1 a2 a3 : Int) (p4 p5 p6 p7 : Option Addr) (l4 c4 l5 c5 l6 c6 l7 c7 : Nat) (w : World) (h4 : l4 ≤ maxLen) (h5 : l5 ≤ maxLen) (h6 : l6 ≤ maxLen) (h7 : l7 ≤ maxLen)
    (h : ¬ (l4 ≤ 4096 ∧ l5 ≤ 4096 ∧ l6 ≤ 4096 ∧ l7 ≤ 4096)) :
    Calls Try.prog 5 #[.int .i64 a0, .int .i64 a1, .int .i64 a2, .int .i64 a3, .slice p4 l4 c4, .slice p5 l5 c5, .slice p6 l6 c6, .slice p7 l7 c7] w fun e w' => e = .returned (.bool true) ∧ w' = w := by
  have hb := fun w => bytes8_any a0 a1 a2 a3 p4 p5 p6 p7 l4 c4 l5 c5 l6 c6 l7 c7 w h4 h5 h6 h7
  have HBY : Hid _ := hb
  clear hb
  unfold maxLen at h4 h5 h6 h7
  go_enter Try.func5, Try.ntmps5
  go_wp2_with fail
  refine (HBY.out _).mono ?_
  rintro e w' ⟨bb, rfl, rfl⟩
  cases bb
  · go_wp2
    go_ret
    exact ⟨rfl, rfl⟩
  by_cases g4 : 4096 < l4
  · go_wp2
    go_ret
    exact ⟨rfl, rfl⟩
  · by_cases g5 : 4096 < l5
    · go_wp2
      go_ret
      exact ⟨rfl, rfl⟩
    · by_cases g6 : 4096 < l6
      · go_wp2
        go_ret
        exact ⟨rfl, rfl⟩
      · have g7 : 4096 < l7 := by omega
        clear h
        go_wp2
        go_ret
        exact ⟨rfl, rfl⟩

set_option maxRecDepth 20000 in
set_option maxHeartbeats 2000000 in
theorem twice_odd (a0 a1 a2 a3 : Int) (p4 p5 p6 p7 : Option Addr) (l4 c4 l5 c5 l6 c6 l7 c7 : Nat) (w : World) (h4 : l4 ≤ 4096) (h5 : l5 ≤ 4096) (h6 : l6 ≤ 4096) (h7 : l7 ≤ 4096)
    (h : ¬ (0 < l4 ∧ l5 = l4 ∧ l6 = l4 ∧ l7 = l4)) :
    Calls Try.prog 5 #[.int .i64 a0, .int .i64 a1, .int .i64 a2, .int .i64 a3, .slice p4 l4 c4, .slice p5 l5 c5, .slice p6 l6 c6, .slice p7 l7 c7] w fun e w' => e = .returned (.bool true) ∧ w' = w := by
  have HBY : Hid _ := fun w => bytes8_any a0 a1 a2 a3 p4 p5 p6 p7 l4 c4 l5 c5 l6 c6 l7 c7 w (by unfold maxLen; omega) (by unfold maxLen; omega) (by unfold maxLen; omega) (by unfold maxLen; omega)
  have HP : Hid _ := fun w => premise_bad a0 a1 a2 a3 9223372036854775807 p4 p5 p6 p7 l4 c4 l5 c5 l6 c6 l7 c7 w h4 h5 h6 h7 h
  clear h
  go_enter Try.func5, Try.ntmps5
  go_wp2_with fail
  refine (HBY.out _).mono ?_
  rintro e w' ⟨bb, rfl, rfl⟩
  cases bb
  · go_wp2
    go_ret
    exact ⟨rfl, rfl⟩
  go_wp2_with fail
  refine (HP.out _).mono ?_
  rintro e w' ⟨rfl, rfl⟩
  go_wp2
  go_ret
  exact ⟨rfl, rfl⟩

theorem twice_walk (a0 a1 a2 a3 : Int) (p4 p5 p6 p7 : Option Addr) (l4 c4 l5 c5 l6 c6 l7 c7 : Nat) (z4 z5 z6 z7 : List Int) (w : World)
    (w4 : InRow w p4 l4 c4 z4) (w5 : InRow w p5 l5 c5 z5) (w6 : InRow w p6 l6 c6 z6) (w7 : InRow w p7 l7 c7 z7) :
    Calls Try.prog 5 #[.int .i64 a0, .int .i64 a1, .int .i64 a2, .int .i64 a3, .slice p4 l4 c4, .slice p5 l5 c5, .slice p6 l6 c6, .slice p7 l7 c7] w fun e w' => e = .returned (.bool true) ∧ Below w.heap.size w w' := by
  by_cases h : l4 ≤ 4096 ∧ l5 ≤ 4096 ∧ l6 ≤ 4096 ∧ l7 ≤ 4096
  · obtain ⟨h4, h5, h6, h7⟩ := h
    by_cases g : 0 < l4 ∧ l5 = l4 ∧ l6 = l4 ∧ l7 = l4
    · obtain ⟨g0, rfl, rfl, rfl⟩ := g
      obtain ⟨b4, o4, rfl, k4, r4⟩ := w4.open g0
      obtain ⟨b5, o5, rfl, k5, r5⟩ := w5.open g0
      obtain ⟨b6, o6, rfl, k6, r6⟩ := w6.open g0
      obtain ⟨b7, o7, rfl, k7, r7⟩ := w7.open g0
      exact twice_rows a0 a1 a2 a3 _ b4 o4 c4 b5 o5 c5 b6 o6 c6 b7 o7 c7 (fun i => z4.getD i 0) (fun i => z5.getD i 0) (fun i => z6.getD i 0) (fun i => z7.getD i 0) w g0 h4 k4 k5 k6 k7 r4 r5 r6 r7
    · exact (twice_odd a0 a1 a2 a3 p4 p5 p6 p7 l4 c4 l5 c5 l6 c6 l7 c7 w h4 h5 h6 h7 g).mono fun _ _ ⟨h1, h2⟩ => ⟨h1, h2 ▸ Below.refl _ _⟩
  · exact (twice_big a0 a1 a2 a3 p4 p5 p6 p7 l4 c4 l5 c5 l6 c6 l7 c7 w w4.le w5.le w6.le w7.le h).mono fun _ _ ⟨h1, h2⟩ => ⟨h1, h2 ▸ Below.refl _ _⟩
end Go.Proofs.Qxb6613595a
