import Derived.Test.Qxb6608761aProg
import Derived.Test.Qxb6608761aEmPlain
import Derived.WalkKit
import Derived.WalkSpells
import Derived.WalkLawsBesides
import Derived.BigQuiet
import Derived.BigRegion
import Derived.Deep.QuietTactic
import Derived.Deep.RegionWith
import Derived.StillTailTactics
import Derived.Deep.OwnRows
import Derived.Laws.CopyOwn
import Derived.Deep.Light
import Derived.Below
import Derived.KernelRfl
namespace Go.Proofs.Qxb6608761a
open Go.RowKit

/-- The n bytes of the slice at p read f. -/
def Rd (w : World) (p : Option Addr) (n : Nat) (f : Nat → Nat) : Prop := ∀ i, i < n → ∃ x, p = some x ∧ w.cell? (x.add i) = some (.int .u8 (f i : Int))

theorem drewTwice (w : World) (i j : Nat) : ∃ k, (w.drewN i).drewN j = w.drewN k := ⟨i + j, by simp [World.drewN, Nat.add_assoc]⟩

def eqB (n m : Nat) (f g : Nat → Nat) : Bool := decide (n = m) && decide (seg f 0 n = seg g 0 n)

theorem seg_eq_iff {α : Type} (f g : Nat → α) (n : Nat) : seg f 0 n = seg g 0 n ↔ ∀ i, i < n → f i = g i := by
  constructor
  · intro h i hi
    have h1 := seg_get (f := f) (s := 0) (e := n) i (by omega)
    rw [h, seg_get i (by omega)] at h1
    have := Option.some.inj h1
    rw [Nat.zero_add] at this
    exact this.symm
  · exact fun h => seg_congr fun i _ hi => h i hi

set_option maxHeartbeats 400000 in
theorem equal_any (p q : Option Addr) (n m c d : Nat) (f g : Nat → Nat) (w : World) (hn : n ≤ 1048576) (hp : Rd w p n f) (hq : Rd w q m g) :
    Calls Try.prog 24 #[.slice p n c, .slice q m d] w fun e w' => e = .returned (.bool (eqB n m f g)) ∧ ∃ j, w' = w.drewN j := by
  by_cases hnm : n = m
  · subst hnm
    go_enter Try.func24, Try.ntmps24
    go_wp2
    go_loopw [5] (fun i wr => ∃ k j : Nat, k ≤ n ∧ i = .int .i64 k ∧ wr = w.drewN j ∧ ∀ i, i < k → f i = g i) (fun i _ => n - (intOf i).toNat)
    case atStart => exact ⟨0, 0, Nat.zero_le _, rfl, rfl, fun i hi => by omega⟩
    case round =>
      obtain ⟨k, j, hk, rfl, rfl, hpre⟩ := hrel
      by_cases hlt : k < n
      · obtain ⟨x, rfl, hx⟩ := hp k hlt
        obtain ⟨y, rfl, hy⟩ := hq k hlt
        have HP : Hid _ := hpre
        clear hp hq hpre
        by_cases he : f k = g k
        · rw [← he] at hy
          go_wp2
          go_quiet (fail)
          go_wp2
          go_roundw
          case rel => exact ⟨k + 1, _, hlt, by go_num, rfl, fun i hi => by by_cases e : i = k; (subst e; exact he); (exact HP.out i (by omega))⟩
          case measure => simp [intOf]; omega
        · have he' : ¬ (f k : Int) = (g k : Int) := by omega
          go_wp2
          go_quiet (fail)
          go_wp2
          go_ret
          refine ⟨?_, drewTwice _ _ _⟩
          have : ¬ seg f 0 n = seg g 0 n := fun h => he ((seg_eq_iff f g n).1 h k hlt)
          simp [eqB, this]
      · obtain rfl : k = n := by omega
        have HP : Hid _ := hpre
        clear hp hq hpre
        go_wp2
        go_ret
        refine ⟨?_, _, rfl⟩
        simp [eqB, (seg_eq_iff f g k).2 HP.out]
  · have hnm' : ¬ (n : Int) = (m : Int) := by omega
    clear hp hq
    go_enter Try.func24, Try.ntmps24
    go_wp2
    go_ret
    exact ⟨by simp [eqB, hnm], 0, rfl⟩

theorem cmpN_skip (f g : Nat → Nat) (n m : Nat) : ∀ k, k ≤ n → k ≤ m → (∀ i, i < k → f i = g i) → cmpN (seg f 0 n) (seg g 0 m) = cmpN (seg f k n) (seg g k m)
  | 0, _, _, _ => rfl
  | k + 1, h1, h2, h => by
    rw [cmpN_skip f g n m k (by omega) (by omega) (fun i hi => h i (by omega)), seg_cons (f := f) (s := k) (by omega), seg_cons (f := g) (s := k) (by omega), h k (by omega)]
    simp [cmpN]

set_option maxHeartbeats 800000 in
theorem compareBytes_any (p q : Option Addr) (n m c d : Nat) (f g : Nat → Nat) (w : World) (hn : n ≤ 1048576) (hm : m ≤ 1048576) (hp : Rd w p n f) (hq : Rd w q m g) :
    Calls Try.prog 43 #[.slice p n c, .slice q m d] w fun e w' => e = .returned (.int .i64 (cmpN (seg f 0 n) (seg g 0 m))) ∧ ∃ j, w' = w.drewN j := by
  obtain ⟨l, hl⟩ : ∃ l, l = min n m := ⟨_, rfl⟩
  have hmin : (if m < n then m else n) = l := by rw [hl]; split <;> omega
  by_cases hmn : m < n
  all_goals
    go_enter Try.func43, Try.ntmps43
    go_wp2
    go_loopw [6] (fun i wr => ∃ k j : Nat, k ≤ l ∧ i = .int .i64 k ∧ wr = w.drewN j ∧ ∀ i, i < k → f i = g i) (fun i _ => l - (intOf i).toNat)
    case atStart => exact ⟨0, 0, Nat.zero_le _, rfl, rfl, fun i hi => by omega⟩
    case round =>
      obtain ⟨k, j, hk, rfl, rfl, hpre⟩ := hrel
      by_cases hlt : k < l
      · have hkn : k < n := by omega
        have hkm : k < m := by omega
        obtain ⟨x, rfl, hx⟩ := hp k hkn
        obtain ⟨y, rfl, hy⟩ := hq k hkm
        have HP : Hid _ := hpre
        have hs : Hid _ := cmpN_skip f g n m k (by omega) (by omega) hpre
        rw [seg_cons (f := f) hkn, seg_cons (f := g) hkm] at hs
        clear hp hq hpre hl hmin
        by_cases h1 : f k < g k
        · have h1' : (f k : Int) < (g k : Int) := by omega
          go_wp2
          go_quiet (fail)
          go_wp2
          go_ret
          refine ⟨?_, drewTwice _ _ _⟩
          rw [hs.out]; simp [cmpN, h1]
        · have h1' : ¬ (f k : Int) < (g k : Int) := by omega
          by_cases h2 : g k < f k
          · have h2' : (g k : Int) < (f k : Int) := by omega
            go_wp2
            go_quiet (fail)
            go_wp2
            go_quiet (fail)
            go_wp2
            go_ret
            refine ⟨?_, ?_⟩
            · rw [hs.out]; simp [cmpN, h1, h2]
            · exact ⟨_, by rw [World.drewN_drewN, World.drewN_drewN]⟩
          · have h2' : ¬ (g k : Int) < (f k : Int) := by omega
            go_wp2
            go_quiet (fail)
            go_wp2
            go_quiet (fail)
            go_wp2
            go_roundw
            case rel => exact ⟨k + 1, _, hlt, by go_num, rfl, fun i hi => by by_cases e : i = k; (subst e; omega); (exact HP.out i (by omega))⟩
            case measure => simp [intOf]; omega
      · obtain rfl : k = l := by omega
        have hs : Hid _ := cmpN_skip f g n m k (by omega) (by omega) hpre
        clear hp hq hpre
        by_cases h1 : n < m
        · obtain rfl : k = n := by omega
          rw [seg_nil (Nat.le_refl _), seg_cons (f := g) h1] at hs
          have h1' : (k : Int) < (m : Int) := by omega
          clear hl hmin
          first
            | (exfalso; omega)
            | (go_wp2
               go_ret
               exact ⟨by rw [hs.out]; rfl, _, rfl⟩)
        · by_cases h2 : m < n
          · obtain rfl : k = m := by omega
            rw [seg_nil (f := g) (Nat.le_refl _), seg_cons (f := f) h2] at hs
            have h1' : ¬ (n : Int) < (k : Int) := by omega
            have h2' : (k : Int) < (n : Int) := by omega
            clear hl hmin
            first
              | (exfalso; omega)
              | (go_wp2
                 go_ret
                 exact ⟨by rw [hs.out]; rfl, _, rfl⟩)
          · obtain rfl : n = m := by omega
            obtain rfl : k = n := by omega
            rw [seg_nil (f := g) (Nat.le_refl _), seg_nil (f := f) (Nat.le_refl _)] at hs
            clear hl hmin
            first
              | (exfalso; omega)
              | (go_wp2
                 go_ret
                 exact ⟨by rw [hs.out]; rfl, _, rfl⟩)
end Go.Proofs.Qxb6608761a
