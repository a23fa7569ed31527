import Derived.Test.Qxb6613595aProg
import Derived.WalkKit
import Derived.WalkSpells
import Derived.WalkLawsBesides
import Derived.Defers
import Derived.Conc.MuLone
import Derived.Conc.MuData
import Derived.BigQuiet
import Derived.Deep.RegionWith
import Derived.KernelRfl
namespace Go.Proofs.Qxb6613595a
open Go.RowKit Go.MuLone

abbrev muLink : Go.Conc.Locks.MuLink := { lock := 24, unlock := 25, ilock := 27, iunlock := 28, lockSlow := 34, unlockSlow := 37, disable := 30, enable := 32, acquire := 33, relMerge := 35, cas32 := 31, add32 := 36, tMutex := 60, tIMutex := 58, tPMutex := 67, tPIMutex := 69, tPI32 := 71, tUP := 73, tNoCopy := 55, tU32 := 56 }
theorem muLib : Go.Conc.Locks.MuLib Try.prog muLink :=
  ⟨Try.func24, Try.func25, Try.func27, Try.func28, Try.func30, Try.func32, Try.func33, Try.func35, Try.func31, Try.func36, Try.underlying58, Try.runUnderlying58, Try.sizeOf58, Try.isAgg58, Try.zeroValue58, Try.underlying60, Try.runUnderlying60, Try.sizeOf60, Try.isAgg60, Try.zeroValue60, Try.underlying67, Try.runUnderlying67, Try.sizeOf67, Try.isAgg67, Try.zeroValue67, Try.underlying69, Try.runUnderlying69, Try.sizeOf69, Try.isAgg69, Try.zeroValue69, Try.underlying71, Try.runUnderlying71, Try.sizeOf71, Try.isAgg71, Try.zeroValue71, Try.underlying73, Try.runUnderlying73, Try.sizeOf73, Try.isAgg73, Try.zeroValue73, Try.underlying55, Try.runUnderlying55, Try.sizeOf55, Try.isAgg55, Try.zeroValue55, Try.underlying21, Try.runUnderlying21, Try.sizeOf21, Try.isAgg21, Try.zeroValue21, (by kernel_rfl)⟩

/-- The greatest int64, kept behind a name. -/
def mx : Int := 9223372036854775807
/-- 'later' -/
def lat (t d : Int) : Int := if t ≤ mx - d then t + d else mx

/-- what a clock reads whose last reading is l, its offset d, its source's reading t -/
def rdg (t d l : Int) : Int := if l < lat t d then lat t d else l

theorem lat_le (t d : Int) (h1 : t ≤ mx - d) : lat t d = t + d := by simp [lat, h1]
theorem lat_gt (t d : Int) (h1 : ¬ t ≤ mx - d) : lat t d = mx := by simp only [lat, h1, if_false]

set_option maxHeartbeats 400000 in
theorem later_any (t d : Int) (w : World) (h0 : 0 ≤ t) (h1 : t ≤ mx) (h2 : 0 ≤ d) (h3 : d ≤ mx) :
    Calls Try.prog 29 #[.int .i64 t, .int .i64 d] w fun e w' => e = .returned (.int .i64 (lat t d)) ∧ w' = w := by
  by_cases h : t ≤ mx - d
  · rw [lat_le t d h]
    unfold mx at h h1 h3
    go_enter Try.func29, Try.ntmps29
    go_wp2
    go_ret
    exact ⟨rfl, rfl⟩
  · rw [lat_gt t d h]
    unfold mx at h h1 h3
    go_enter Try.func29, Try.ntmps29
    go_wp2
    go_ret
    exact ⟨rfl, rfl⟩
set_option maxHeartbeats 400000 in
theorem source_any (v : Nat) (s : Int) (w : World) (h : w.cell? ⟨v, 0, none⟩ = some (.int .i64 s)) :
    Calls Try.prog 18 #[.pointer (some ⟨v, 0, none⟩)] w fun e w' => e = .returned (.int .i64 s) ∧ w' = w := by
  go_enter Try.func18, Try.ntmps18
  go_wp2
  go_ret
  exact ⟨rfl, rfl⟩
set_option maxHeartbeats 1000000 in
theorem readAt_any (b : Nat) (t d l : Int) (w : World) (h0 : 0 ≤ t) (h1 : t ≤ mx) (h2 : 0 ≤ d) (h3 : d ≤ mx)
    (c3 : w.cell? ⟨b, 3, none⟩ = some (.int .i64 d)) (c4 : w.cell? ⟨b, 4, none⟩ = some (.int .i64 l)) (f4 : w.frozen? ⟨b, 4, none⟩ = false) :
    Calls Try.prog 26 #[.pointer (some ⟨b, 0, none⟩), .int .i64 t] w fun e w' => e = .returned (.int .i64 (rdg t d l)) ∧ w' = (w.setCell ⟨b, 4, none⟩ (.int .i64 (rdg t d l))).drew := by
  by_cases hl : l < lat t d
  · rw [show rdg t d l = lat t d from if_pos hl]
    go_enter Try.func26, Try.ntmps26
    go_wp2
    go_region_with (go_at_call 29; refine (later_any _ _ _ h0 h1 h2 h3).mono ?_; rintro e w' ⟨rfl, rfl⟩)
    all_goals
      go_wp2
      go_ret
      exact ⟨rfl, rfl⟩
  · rw [show rdg t d l = l from if_neg hl]
    go_enter Try.func26, Try.ntmps26
    go_wp2
    go_region_with (go_at_call 29; refine (later_any _ _ _ h0 h1 h2 h3).mono ?_; rintro e w' ⟨rfl, rfl⟩)
    all_goals
      go_wp2
      go_ret
      exact ⟨rfl, rfl⟩
set_option maxHeartbeats 400000 in
theorem read_any (b v : Nat) (t d l : Int) (w : World) (h0 : 0 ≤ t) (h1 : t ≤ mx) (h2 : 0 ≤ d) (h3 : d ≤ mx)
    (c0 : w.cell? ⟨b, 0, none⟩ = some (.func (.func 18) #[] #[.pointer (some ⟨v, 0, none⟩)])) (c1 : w.cell? ⟨b, 1, none⟩ = some (.int .i32 0))
    (c3 : w.cell? ⟨b, 3, none⟩ = some (.int .i64 d)) (c4 : w.cell? ⟨b, 4, none⟩ = some (.int .i64 l)) (cv : w.cell? ⟨v, 0, none⟩ = some (.int .i64 t))
    (f1 : w.frozen? ⟨b, 1, none⟩ = false) (f4 : w.frozen? ⟨b, 4, none⟩ = false) :
    Calls Try.prog 20 #[.pointer (some ⟨b, 0, none⟩)] w fun e w' => e = .returned (.int .i64 (rdg t d l)) ∧
      w' = (((w.setCell ⟨b, 1, none⟩ (.int .i32 1)).setCell ⟨b, 4, none⟩ (.int .i64 (rdg t d l))).setCell ⟨b, 1, none⟩ (.int .i32 0)).drew := by
  go_enter_defers Try.func20, Try.ntmps20
  go_wp2_with (go_at_call 24; refine (lock_free muLib ⟨b, 1, none⟩ _ c1 f1).mono ?_; rintro e w' ⟨rfl, rfl⟩)
  refine (source_any v t _ ?_).mono ?_
  · rw [World.cell?_setCell_other _ ⟨b, 1, none⟩ ⟨v, 0, none⟩ _ (by simp)]; exact cv
  rintro e w' ⟨rfl, rfl⟩
  go_wp2_with fail
  refine (readAt_any b t d l _ h0 h1 h2 h3 ?_ ?_ ?_).mono ?_
  · rw [World.cell?_setCell_other _ ⟨b, 1, none⟩ ⟨b, 3, none⟩ _ (by simp)]; exact c3
  · rw [World.cell?_setCell_other _ ⟨b, 1, none⟩ ⟨b, 4, none⟩ _ (by simp)]; exact c4
  · simp [f4]
  rintro e w' ⟨rfl, rfl⟩
  go_wp2_with fail
  refine leaves_cons (f := 25) (args := #[.pointer (some ⟨b, 1, none⟩)]) (by simp) (by simp [go_sem]) ?_
  refine (unlock_deferred muLib ⟨b, 1, none⟩ .returning _ ?_ ?_).mono ?_
  · exact (World.cell?_setCell_other _ ⟨b, 4, none⟩ ⟨b, 1, none⟩ _ (by simp)).trans (World.cell?_setCell_same w ⟨b, 1, none⟩ (.int .i32 1) c1)
  · simp [f1]
  rintro e u' w'' ⟨rfl, rfl, rfl⟩
  exact ⟨_, results_tmp rfl _ _ _, rfl, rfl⟩
end Go.Proofs.Qxb6613595a
