import Derived.Test.Qxb6608761aEmRead
namespace Go.Proofs.Qxb6608761a
open Go.RowKit

theorem seg_shift {α : Type} (f : Nat → α) (s e : Nat) : seg (fun i => f (s + i)) 0 (e - s) = seg f s e := by simp [seg]

/-- 'wp_region_still_tail', the draw under its name. -/
theorem still_tail {P : Program} {id : Nat} {Q : Exit → Act → World → Prop} {a : Act} {w : World} {l : List Oper} (n : Nat) (hm : P.follows .mixedOrders = true) (hB : Region.lexTailB .any l.toArray n = true)
    (h : wpStill P l.toArray w.drew (fun a' => wpList P l.toArray Q (l.drop n) a' w.drew) (l.take n) a) : (Code.region id l.toArray true).wp P Q a w :=
  wp_region_still_tail n hm hB h

/-- what spanLE answers -/
def leS (f : Nat → Nat) (y : Bool) (a b : Nat × Nat) : Bool := if y then decide (cmpN (seg f a.1 a.2) (seg f b.1 b.2) ≤ 0) else if a.1 = b.1 then decide (a.2 ≤ b.2) else decide (a.1 < b.1)
def spanV (a : Nat × Nat) : Value := .agg #[.int .i64 (a.1 : Int), .int .i64 (a.2 : Int)]

theorem Rd.sub {w : World} {x : Addr} {n c : Nat} {f : Nat → Nat} (h : Rd w (some x) n f) (s e : Nat) (h2 : e ≤ n) (h3 : n ≤ c) : Rd w (if c = s then some x else some (x.add s)) (e - s) (fun i => f (s + i)) := fun i hi => by
  rw [if_neg (by omega)]
  obtain ⟨y, hy, hc⟩ := h (s + i) (by omega)
  cases hy
  refine ⟨_, rfl, ?_⟩
  rw [Addr.add_add]
  exact hc

theorem Rd.below {w W : World} {p : Option Addr} {n : Nat} {f : Nat → Nat} (h : Rd w p n f) (hW : Below w.heap.size w W) : Rd W p n f := fun i hi => by
  obtain ⟨y, hy, hc⟩ := h i hi
  exact ⟨y, hy, (hW.cell (World.block_lt_of_cell? _ _ hc)).trans hc⟩

set_option maxHeartbeats 800000 in
theorem spanLE_place (p : Option Addr) (n c : Nat) (f : Nat → Nat) (a b : Nat × Nat) (w : World) :
    Calls Try.prog 36 #[.slice p n c, spanV a, spanV b, .bool false] w fun e w' => e = .returned (.bool (leS f false a b)) ∧ Below w.heap.size w w' := by
  have HB : Hid (∀ o o', Below w.heap.size w ((w.alloc o).alloc o')) := fun o o' => ((Below.refl _ _).alloc (Nat.le_refl _) _).alloc (by simp) _
  obtain ⟨a1, a2⟩ := a
  obtain ⟨b1, b2⟩ := b
  unfold spanV
  by_cases h : a1 = b1
  · subst h
    go_enter Try.func36, Try.ntmps36
    go_wp2
    go_ret
    refine ⟨?_, HB.out _ _⟩
    simp [leS]
  · have h' : ¬ (a1 : Int) = (b1 : Int) := by omega
    go_enter Try.func36, Try.ntmps36
    go_wp2
    go_ret
    refine ⟨?_, HB.out _ _⟩
    simp [leS, h]

set_option maxRecDepth 20000 in
set_option maxHeartbeats 1600000 in
theorem spanLE_bytes (p : Option Addr) (n c : Nat) (f : Nat → Nat) (a b : Nat × Nat) (w : World) (hn : n ≤ 1048576) (hc : n ≤ c) (hcm : c ≤ 9223372036854775807) (hp : Rd w p n f) (hnil : p = none → n = 0 ∧ c = 0)
    (ha : a.1 ≤ a.2 ∧ a.2 ≤ n) (hb : b.1 ≤ b.2 ∧ b.2 ≤ n) :
    Calls Try.prog 36 #[.slice p n c, spanV a, spanV b, .bool true] w fun e w' => e = .returned (.bool (leS f true a b)) ∧ Below w.heap.size w w' := by
  have HB : Hid (∀ o o' k, Below w.heap.size w (((w.alloc o).alloc o').drewN k)) := fun o o' k => by
    have h := ((Below.refl w.heap.size w).alloc (Nat.le_refl _) o).alloc (by simp) o'
    exact ⟨h.os, h.tape, h.output, h.size, h.block⟩
  obtain ⟨a1, a2⟩ := a
  obtain ⟨b1, b2⟩ := b
  unfold spanV
  cases p with
  | some x =>
    simp only [] at ha hb
    have r1 := hp.sub a1 a2 ha.2 hc
    have r2 := hp.sub b1 b2 hb.2 hc
    have HC : Hid (∀ W : World, Below w.heap.size w W → Calls Try.prog 43 #[.slice (if c = a1 then some x else some (x.add a1)) (a2 - a1) (c - a1), .slice (if c = b1 then some x else some (x.add b1)) (b2 - b1) (c - b1)] W fun e w' => e = .returned (.int .i64 (cmpN (seg f a1 a2) (seg f b1 b2))) ∧ ∃ j, w' = W.drewN j) := fun W hW => by
      have h := compareBytes_any (if c = a1 then some x else some (x.add a1)) (if c = b1 then some x else some (x.add b1)) (a2 - a1) (b2 - b1) (c - a1) (c - b1) _ _ W (by omega) (by omega) (r1.below hW) (r2.below hW)
      rwa [seg_shift, seg_shift] at h
    go_enter Try.func36, Try.ntmps36
    go_wp2_with fail
    go_quiet (refine Calls.quiet_of (HC.out _ (HB.out _ _ _)))
    go_wp2
    all_goals
      go_ret
      exact ⟨by simp [leS], HB.out _ _ _⟩
  | none =>
    obtain ⟨rfl, rfl⟩ := hnil rfl
    obtain ⟨rfl, rfl, rfl, rfl⟩ : a1 = 0 ∧ a2 = 0 ∧ b1 = 0 ∧ b2 = 0 := by simp only [] at ha hb; omega
    have HC : Hid (∀ W : World, Calls Try.prog 43 #[.slice none 0 0, .slice none 0 0] W fun e w' => e = .returned (.int .i64 0) ∧ ∃ j, w' = W.drewN j) := fun W => by
      have h := compareBytes_any none none 0 0 0 0 f f W (by omega) (by omega) (fun i hi => by omega) (fun i hi => by omega)
      rwa [seg_nil (Nat.le_refl _)] at h
    go_enter Try.func36, Try.ntmps36
    go_wp2_with fail
    go_quiet (refine Calls.quiet_of (HC.out _))
    go_wp2
    go_ret
    exact ⟨by simp [leS, cmpN_refl], HB.out _ _ _⟩
end Go.Proofs.Qxb6608761a
