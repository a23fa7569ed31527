import Derived.Test.Qxb6613595aObsZZ
namespace Go.Proofs.Qxb6613595a
open Go.RowKit Go.MuLone

set_option maxHeartbeats 1000000 in
theorem bytes8_any (a0 a1 a2 a3 : Int) (p4 p5 p6 p7 : Option Addr) (l4 c4 l5 c5 l6 c6 l7 c7 : Nat) (w : World) (h4 : l4 ≤ maxLen) (h5 : l5 ≤ maxLen) (h6 : l6 ≤ maxLen) (h7 : l7 ≤ maxLen) :
    Calls Try.prog 8 #[.int .i64 a0, .int .i64 a1, .int .i64 a2, .int .i64 a3, .slice p4 l4 c4, .slice p5 l5 c5, .slice p6 l6 c6, .slice p7 l7 c7] w fun e w' => ∃ b, e = .returned (.bool b) ∧ w' = w := by
  unfold maxLen at h4 h5 h6 h7
  go_enter Try.func8, Try.ntmps8
  go_wp2
  all_goals
    go_ret
    exact ⟨_, rfl, rfl⟩
set_option maxHeartbeats 1000000 in
theorem bytes16_any (a0 a1 a2 a3 a8 : Int) (p4 p5 p6 p7 : Option Addr) (l4 c4 l5 c5 l6 c6 l7 c7 : Nat) (w : World) (h4 : l4 ≤ maxLen) (h5 : l5 ≤ maxLen) (h6 : l6 ≤ maxLen) (h7 : l7 ≤ maxLen) :
    Calls Try.prog 16 #[.int .i64 a0, .int .i64 a1, .int .i64 a2, .int .i64 a3, .slice p4 l4 c4, .slice p5 l5 c5, .slice p6 l6 c6, .slice p7 l7 c7, .int .i64 a8] w fun e w' => ∃ b, e = .returned (.bool b) ∧ w' = w := by
  unfold maxLen at h4 h5 h6 h7
  go_enter Try.func16, Try.ntmps16
  go_wp2
  all_goals
    go_ret
    exact ⟨_, rfl, rfl⟩

set_option maxHeartbeats 1000000 in
theorem premise_bad (a0 a1 a2 a3 lim : Int) (p4 p5 p6 p7 : Option Addr) (l4 c4 l5 c5 l6 c6 l7 c7 : Nat) (w : World) (h4 : l4 ≤ 4096) (h5 : l5 ≤ 4096) (h6 : l6 ≤ 4096) (_h7 : l7 ≤ 4096)
    (h : ¬ (0 < l4 ∧ l5 = l4 ∧ l6 = l4 ∧ l7 = l4)) :
    Calls Try.prog 9 #[.int .i64 a0, .int .i64 a1, .int .i64 a2, .int .i64 a3, .slice p4 l4 c4, .slice p5 l5 c5, .slice p6 l6 c6, .slice p7 l7 c7, .int .i64 lim] w fun e w' => e = .returned (.bool false) ∧ w' = w := by
  by_cases e4 : l4 = 0
  · subst e4
    clear h
    go_enter Try.func9, Try.ntmps9
    go_wp2
    go_ret
    exact ⟨rfl, rfl⟩
  · by_cases e5 : l5 = l4
    · subst e5
      by_cases e6 : l6 = l5
      · subst e6
        have e7 : ¬ l7 = l6 := by omega
        have k4 : ((l6 : Int) == 0) = false := by simp; omega
        have k7 : ((l7 : Int) != (l6 : Int)) = true := by simp; omega
        clear h e4 e7
        go_enter Try.func9, Try.ntmps9
        go_wp2
        go_ret
        exact ⟨rfl, rfl⟩
      · have k4 : ((l5 : Int) == 0) = false := by simp; omega
        have k6 : ((l6 : Int) != (l5 : Int)) = true := by simp; omega
        clear h e4 e6
        go_enter Try.func9, Try.ntmps9
        go_wp2
        go_ret
        exact ⟨rfl, rfl⟩
    · have k4 : ((l4 : Int) == 0) = false := by simp; omega
      have k5 : ((l5 : Int) != (l4 : Int)) = true := by simp; omega
      clear h e4 e5
      go_enter Try.func9, Try.ntmps9
      go_wp2
      go_ret
      exact ⟨rfl, rfl⟩

/-- what the premise asks of place i -/
def okAt (lim : Int) (f4 f5 f6 f7 : Nat → Int) (i : Nat) : Prop := 0 ≤ f4 i ∧ f4 i ≤ lim ∧ 0 ≤ f5 i ∧ f5 i ≤ lim ∧ 0 ≤ f6 i ∧ f6 i ≤ lim ∧ 0 ≤ f7 i ∧ f7 i ≤ f6 i
def headOk (now period eps back : Int) : Prop := 0 ≤ now ∧ 0 ≤ period ∧ period < 4611686018427387904 ∧ 0 ≤ eps ∧ 0 ≤ back

def premPost (w : World) (n : Nat) (a0 a1 a2 a3 lim : Int) (f4 f5 f6 f7 : Nat → Int) (e : Ending) (w' : World) : Prop :=
  ∃ b j, e = .returned (.bool b) ∧ w' = w.drewN j ∧ (b = true → headOk a0 a1 a2 a3 ∧ ∀ i, i < n → okAt lim f4 f5 f6 f7 i)

theorem drewN2 (w : World) (j k : Nat) : (w.drewN j).drewN k = w.drewN (j + k) := by simp [World.drewN, Nat.add_assoc]

set_option maxRecDepth 20000 in
set_option maxHeartbeats 2000000 in
theorem premise_rows (a0 a1 a2 a3 lim : Int) (n b4 o4 c4 b5 o5 c5 b6 o6 c6 b7 o7 c7 : Nat) (f4 f5 f6 f7 : Nat → Int) (w : World) (hn0 : 0 < n) (hn : n ≤ 4096)
    (r4 : ∀ i, i < n → w.cell? ⟨b4, o4 + i, none⟩ = some (.int .i64 (f4 i))) (r5 : ∀ i, i < n → w.cell? ⟨b5, o5 + i, none⟩ = some (.int .i64 (f5 i)))
    (r6 : ∀ i, i < n → w.cell? ⟨b6, o6 + i, none⟩ = some (.int .i64 (f6 i))) (r7 : ∀ i, i < n → w.cell? ⟨b7, o7 + i, none⟩ = some (.int .i64 (f7 i))) :
    Calls Try.prog 9 #[.int .i64 a0, .int .i64 a1, .int .i64 a2, .int .i64 a3, .slice (some ⟨b4, o4, none⟩) n c4, .slice (some ⟨b5, o5, none⟩) n c5, .slice (some ⟨b6, o6, none⟩) n c6, .slice (some ⟨b7, o7, none⟩) n c7, .int .i64 lim] w
      fun e w' => premPost w n a0 a1 a2 a3 lim f4 f5 f6 f7 e w' := by
  have k4 : ((n : Int) == 0) = false := by simp; omega
  by_cases hh : headOk a0 a1 a2 a3
  · obtain ⟨t0, t1, t2, t3, t4⟩ := hh
    go_enter Try.func9, Try.ntmps9
    go_wp2
    go_loopw [20] (fun i wr => ∃ k j : Nat, k ≤ n ∧ i = .int .i64 k ∧ wr = w.drewN j ∧ ∀ i, i < k → okAt lim f4 f5 f6 f7 i) (fun i _ => n - (intOf i).toNat)
    case atStart => exact ⟨0, 0, Nat.zero_le _, rfl, rfl, fun i hi => by omega⟩
    case round =>
      obtain ⟨k, j, hk, rfl, rfl, hok⟩ := hrel
      by_cases hlt : k < n
      · have d4 := r4 k hlt
        have d5 := r5 k hlt
        have d6 := r6 k hlt
        have d7 := r7 k hlt
        have HOK : Hid _ := hok
        clear r4 r5 r6 r7 hok
        by_cases g1 : f4 k < 0
        · skip
          go_wp2
          go_ret
          exact ⟨false, j, rfl, rfl, fun h => by cases h⟩
        · by_cases g2 : lim < f4 k
          · skip
            go_wp2
            go_ret
            exact ⟨false, j, rfl, rfl, fun h => by cases h⟩
          · by_cases g3 : f5 k < 0
            · skip
              go_wp2
              go_ret
              exact ⟨false, j, rfl, rfl, fun h => by cases h⟩
            · by_cases g4 : lim < f5 k
              · skip
                go_wp2
                go_ret
                exact ⟨false, j, rfl, rfl, fun h => by cases h⟩
              · by_cases g5 : f6 k < 0
                · skip
                  go_wp2
                  go_quiet (fail)
                  go_wp2
                  go_ret
                  exact ⟨false, _, rfl, drewN2 w j _, fun h => by cases h⟩
                · have e5 : decide (f6 k < 0) = false := by simpa using g5
                  by_cases g6 : lim < f6 k
                  · skip
                    go_wp2
                    go_quiet (fail)
                    go_wp2
                    go_ret
                    exact ⟨false, _, rfl, drewN2 w j _, fun h => by cases h⟩
                  · have e6 : decide (lim < f6 k) = false := by simpa using g6
                    by_cases g7 : f7 k < 0
                    · skip
                      go_wp2
                      go_quiet (fail)
                      go_wp2
                      go_ret
                      exact ⟨false, _, rfl, drewN2 w j _, fun h => by cases h⟩
                    · have e7 : decide (f7 k < 0) = false := by simpa using g7
                      by_cases g8 : f6 k < f7 k
                      · skip
                        go_wp2
                        go_quiet (fail)
                        go_wp2
                        go_ret
                        exact ⟨false, _, rfl, drewN2 w j _, fun h => by cases h⟩
                      · have e8 : decide (f6 k < f7 k) = false := by simpa using g8
                        have HN : Hid (okAt lim f4 f5 f6 f7 k) := ⟨by omega, by omega, by omega, by omega, by omega, by omega, by omega, by omega⟩
                        go_wp2
                        go_quiet (fail)
                        go_wp2
                        go_roundw
                        case rel => exact ⟨k + 1, _, hlt, by go_num, rfl, fun i hi => if h : i = k then h ▸ HN.out else HOK.out i (by omega)⟩
                        case measure => simp [intOf]; omega
      · obtain rfl : k = n := by omega
        have HOK : Hid _ := hok
        clear r4 r5 r6 r7 hok
        go_wp2
        go_ret
        exact ⟨_, j, rfl, rfl, fun _ => ⟨⟨t0, t1, t2, t3, t4⟩, HOK.out⟩⟩
  · by_cases t0 : a0 < 0
    · go_enter Try.func9, Try.ntmps9
      go_wp2
      go_ret
      exact ⟨false, 0, rfl, rfl, fun h => by cases h⟩
    · by_cases t1 : a1 < 0
      · go_enter Try.func9, Try.ntmps9
        go_wp2
        go_ret
        exact ⟨false, 0, rfl, rfl, fun h => by cases h⟩
      · by_cases t2 : 4611686018427387904 ≤ a1
        · go_enter Try.func9, Try.ntmps9
          go_wp2
          go_ret
          exact ⟨false, 0, rfl, rfl, fun h => by cases h⟩
        · by_cases t3 : a2 < 0
          · go_enter Try.func9, Try.ntmps9
            go_wp2
            go_ret
            exact ⟨false, 0, rfl, rfl, fun h => by cases h⟩
          · have t4 : a3 < 0 := by
              by_cases t4 : a3 < 0
              · exact t4
              · exact absurd ⟨by omega, by omega, by omega, by omega, by omega⟩ hh
            clear hh
            go_enter Try.func9, Try.ntmps9
            go_wp2
            go_ret
            exact ⟨false, 0, rfl, rfl, fun h => by cases h⟩
end Go.Proofs.Qxb6613595a
