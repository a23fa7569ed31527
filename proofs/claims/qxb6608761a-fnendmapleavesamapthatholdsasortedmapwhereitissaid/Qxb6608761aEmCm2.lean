import Derived.Test.Qxb6608761aEmOrd
namespace Go.Proofs.Qxb6608761a
open Go.RowKit

theorem cellOf {w : World} {b : Nat} {c : Array Value} {E : TypeId} (h : w.heap[b]? = some (.cells c E (0, 0))) (o : Nat) : w.cell? ⟨b, o, none⟩ = c[o]? := by
  simp [World.cell?, h]
theorem box2 {w w1 : World} {a b : Array Value} {E : TypeId} (h : Below ((w.alloc (.cells a E)).alloc (.cells b E)).heap.size ((w.alloc (.cells a E)).alloc (.cells b E)) w1) :
    (∀ o, w1.cell? ⟨w.heap.size, o, none⟩ = a[o]?) ∧ (∀ o, w1.cell? ⟨w.heap.size + 1, o, none⟩ = b[o]?) := by
  refine ⟨fun o => cellOf (E := E) ?_ o, fun o => cellOf (E := E) ?_ o⟩
  · rw [h.block _ (by simp; omega)]
    show ((w.heap.push _).push _)[_]? = _
    rw [Array.getElem?_push, if_neg (by simp), Array.getElem?_push, if_pos rfl]
  · rw [h.block _ (by simp)]
    show ((w.heap.push _).push _)[_]? = _
    rw [Array.getElem?_push, if_pos (by simp)]

set_option maxHeartbeats 3200000 in
set_option maxRecDepth 20000 in
theorem compareM_any (oB np cp : Nat) (pv : Option Addr) (p : Option Addr) (n c : Nat) (f : Nat → Nat) (s1 e1 d1 h1 s2 e2 d2 h2 : Nat) (w : World) (hd1 : np ≤ d1) (hd2 : np ≤ d2) (hc : w.cell? ⟨oB, 1, none⟩ = some (.slice pv np cp))
    (hB : Bd w p n c f) (a1 : s1 ≤ e1) (a2 : e1 ≤ n) (b1 : s2 ≤ e2) (b2 : e2 ≤ n) :
    Calls Try.prog 41 #[.pointer (some ⟨oB, 0, none⟩), .slice p n c, entV s1 e1 d1 h1, entV s2 e2 d2 h2] w fun r w' => r = .returned (.int .i64 (cmpN (seg f s1 e1) (seg f s2 e2))) ∧ Gr w w' := by
  have hb : oB < w.heap.size := World.block_lt_of_cell? _ _ hc
  have HB : Hid (∀ o o', Gr w ((w.alloc o).alloc o')) := fun o o' => ((Gr.refl w).alloc o).alloc o'
  have HH : Hid (∀ (s e pd h : Nat) (W : World), np ≤ pd → W.cell? ⟨oB, 1, none⟩ = some (.slice pv np cp) → Calls Try.prog 44 #[.pointer (some ⟨oB, 0, none⟩), .agg #[.int .i64 (s : Int), .int .i64 (e : Int), .int .i64 (pd : Int), .int .u64 (h : Int)]] W fun r w' => r = .returned (.bool false) ∧ Gr W w') := fun s e pd h W hpd hW => holds_any oB np cp pv s e pd h W hpd hW
  unfold entV
  cases p with
  | none =>
    obtain ⟨rfl, rfl⟩ := hB.nil rfl
    obtain ⟨rfl, rfl⟩ : s1 = 0 ∧ e1 = 0 := by omega
    obtain ⟨rfl, rfl⟩ : s2 = 0 ∧ e2 = 0 := by omega
    have hr : ∀ W : World, Calls Try.prog 51 #[.slice none 0 0, .slice none 0 0] W fun r w' => r = .returned (.int .i64 (cmpN (seg f 0 0) (seg f 0 0))) ∧ w' = W := fun W => bytesCompare_any none none 0 0 0 0 f f W (fun i hi => by omega) (fun i hi => by omega) (fun _ => rfl) (fun _ => rfl) (fun i hi => by omega) (fun i hi => by omega)
    have HR : Hid _ := hr
    clear hB hr
    go_enter Try.func41, Try.ntmps41
    go_wp2_with fail
    refine (HH.out _ _ _ _ _ hd1 (((HB.out _ _).below.cell hb).trans hc)).mono ?_
    rintro r w1 ⟨rfl, hb1⟩
    have bx := box2 hb1.below
    have k1 : w1.cell? ⟨w.heap.size, 0, none⟩ = some (.int .i64 0) := bx.1 0
    have k2 : w1.cell? ⟨w.heap.size, 1, none⟩ = some (.int .i64 0) := bx.1 1
    have k3 : w1.cell? ⟨w.heap.size + 1, 0, none⟩ = some (.int .i64 0) := bx.2 0
    have k4 : w1.cell? ⟨w.heap.size + 1, 1, none⟩ = some (.int .i64 0) := bx.2 1
    have k5 : w1.cell? ⟨w.heap.size + 1, 2, none⟩ = some (.int .i64 (d2 : Int)) := bx.2 2
    have k6 : w1.cell? ⟨w.heap.size + 1, 3, none⟩ = some (.int .u64 (h2 : Int)) := bx.2 3
    have HB1 : Hid (Gr w w1) := (HB.out _ _).trans hb1
    clear hb1 bx
    have hs1 : w.heap.size + 1 < w1.heap.size := World.block_lt_of_cell? _ _ k3
    go_wp2_with fail
    refine (HH.out _ _ _ _ _ hd2 ((HB1.out.below.cell hb).trans hc)).mono ?_
    rintro r w2 ⟨rfl, hb2⟩
    have l1 := (hb2.below.cell (p := ⟨w.heap.size, 0, none⟩) (by show w.heap.size < w1.heap.size; omega)).trans k1
    have l2 := (hb2.below.cell (p := ⟨w.heap.size, 1, none⟩) (by show w.heap.size < w1.heap.size; omega)).trans k2
    have l3 := (hb2.below.cell (p := ⟨w.heap.size + 1, 0, none⟩) hs1).trans k3
    have l4 := (hb2.below.cell (p := ⟨w.heap.size + 1, 1, none⟩) hs1).trans k4
    have HB2 : Hid (Gr w w2) := HB1.out.trans hb2
    clear hb2 k1 k2 k3 k4 k5 k6 HB1
    go_wp2_with fail
    go_quiet (refine Calls.quiet_of_same (HR.out _))
    go_wp2
    all_goals
      go_ret
      exact ⟨rfl, HB2.out.drewN _⟩
  | some x =>
    have hr : ∀ (q q' : Option Addr) (cc cc' : Nat), q = (if c = s1 then some x else some (x.add s1)) → q' = (if c = s2 then some x else some (x.add s2)) → ∀ W, Below w.heap.size w W → Calls Try.prog 51 #[.slice q (e1 - s1) cc, .slice q' (e2 - s2) cc'] W fun r w' => r = .returned (.int .i64 (cmpN (seg f s1 e1) (seg f s2 e2))) ∧ w' = W := fun q q' cc cc' hq hq' W hW => by
      have h' := bytesCompare_any q q' (e1 - s1) (e2 - s2) cc cc' (fun i => f (s1 + i)) (fun i => f (s2 + i)) W (by rw [hq]; exact (hB.rd.sub s1 e1 a2 hB.le).below hW) (by rw [hq']; exact (hB.rd.sub s2 e2 b2 hB.le).below hW) (fun h => by rw [hq] at h; split at h <;> cases h) (fun h => by rw [hq'] at h; split at h <;> cases h) (fun i hi => hB.byte _ (by omega)) (fun i hi => hB.byte _ (by omega))
      rwa [seg_shift, seg_shift] at h'
    have q1 := hB.le
    have q2 := hB.cap
    have HR : Hid _ := hr
    clear hB hr
    go_enter Try.func41, Try.ntmps41
    go_wp2_with fail
    refine (HH.out _ _ _ _ _ hd1 (((HB.out _ _).below.cell hb).trans hc)).mono ?_
    rintro r w1 ⟨rfl, hb1⟩
    have bx := box2 hb1.below
    have k1 : w1.cell? ⟨w.heap.size, 0, none⟩ = some (.int .i64 (s1 : Int)) := bx.1 0
    have k2 : w1.cell? ⟨w.heap.size, 1, none⟩ = some (.int .i64 (e1 : Int)) := bx.1 1
    have k3 : w1.cell? ⟨w.heap.size + 1, 0, none⟩ = some (.int .i64 (s2 : Int)) := bx.2 0
    have k4 : w1.cell? ⟨w.heap.size + 1, 1, none⟩ = some (.int .i64 (e2 : Int)) := bx.2 1
    have k5 : w1.cell? ⟨w.heap.size + 1, 2, none⟩ = some (.int .i64 (d2 : Int)) := bx.2 2
    have k6 : w1.cell? ⟨w.heap.size + 1, 3, none⟩ = some (.int .u64 (h2 : Int)) := bx.2 3
    have HB1 : Hid (Gr w w1) := (HB.out _ _).trans hb1
    clear hb1 bx
    have hs1 : w.heap.size + 1 < w1.heap.size := World.block_lt_of_cell? _ _ k3
    go_wp2_with fail
    refine (HH.out _ _ _ _ _ hd2 ((HB1.out.below.cell hb).trans hc)).mono ?_
    rintro r w2 ⟨rfl, hb2⟩
    have l1 := (hb2.below.cell (p := ⟨w.heap.size, 0, none⟩) (by show w.heap.size < w1.heap.size; omega)).trans k1
    have l2 := (hb2.below.cell (p := ⟨w.heap.size, 1, none⟩) (by show w.heap.size < w1.heap.size; omega)).trans k2
    have l3 := (hb2.below.cell (p := ⟨w.heap.size + 1, 0, none⟩) hs1).trans k3
    have l4 := (hb2.below.cell (p := ⟨w.heap.size + 1, 1, none⟩) hs1).trans k4
    have HB2 : Hid (Gr w w2) := HB1.out.trans hb2
    clear hb2 k1 k2 k3 k4 k5 k6 HB1
    go_wp2_with fail
    go_quiet (refine Calls.quiet_of_same (HR.out _ _ _ _ rfl rfl _ (below_drewN HB2.out.below _)))
    go_wp2
    all_goals
      go_ret
      exact ⟨rfl, HB2.out.drewN _⟩
end Go.Proofs.Qxb6608761a
