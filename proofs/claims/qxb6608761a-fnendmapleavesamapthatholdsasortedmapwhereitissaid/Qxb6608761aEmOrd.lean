import Derived.Test.Qxb6608761aEmHead
namespace Go.Proofs.Qxb6608761a
open Go.RowKit

/-- a slice of bytes, and what its bytes read -/
structure Bd (w : World) (p : Option Addr) (n c : Nat) (f : Nat → Nat) : Prop where
  rd : Rd w p n f
  nil : p = none → n = 0 ∧ c = 0
  blk : ∀ x, p = some x → ∃ b o, x = ⟨b, o, none⟩
  le : n ≤ c
  cap : c ≤ 9223372036854775807
  len : n ≤ 1048576
  byte : ∀ i, i < n → f i < 256
theorem Bd.below {w W : World} {p : Option Addr} {n c : Nat} {f : Nat → Nat} (h : Bd w p n c f) (hW : Below w.heap.size w W) : Bd W p n c f := ⟨h.rd.below hW, h.nil, h.blk, h.le, h.cap, h.len, h.byte⟩
theorem below_tr {a b c : World} (h : Below a.heap.size a b) (k : Below b.heap.size b c) : Below a.heap.size a c := h.trans (k.mono h.size)

theorem sub_blk {x : Addr} (h : ∀ y, some x = some y → ∃ b o, y = ⟨b, o, none⟩) (c s : Nat) : ∀ y, (if c = s then some x else some (x.add s)) = some y → ∃ b o, y = ⟨b, o, none⟩ := fun y hy => by
  obtain ⟨b, o, rfl⟩ := h x rfl
  split at hy
  · cases hy; exact ⟨b, o, rfl⟩
  · cases hy; exact ⟨b, o + s, by rw [Addr.add_lit]⟩

set_option maxHeartbeats 1600000 in
set_option maxRecDepth 20000 in
theorem headM_any (oB np cp : Nat) (pv : Option Addr) (p : Option Addr) (n c : Nat) (f : Nat → Nat) (s e pd h : Nat) (w : World) (hpd : np ≤ pd) (hc : w.cell? ⟨oB, 1, none⟩ = some (.slice pv np cp))
    (hB : Bd w p n c f) (h1 : s ≤ e) (h2 : e ≤ n) :
    Calls Try.prog 37 #[.pointer (some ⟨oB, 0, none⟩), .slice p n c, entV s e pd h] w fun r w' => r = .returned (.int .u64 ((headK 8 (seg f s e) : Nat) : Int)) ∧ Below w.heap.size w w' := by
  have hb : oB < w.heap.size := World.block_lt_of_cell? _ _ hc
  have HB : Hid _ := below_box w
  have HH : Hid (∀ W : World, W.cell? ⟨oB, 1, none⟩ = some (.slice pv np cp) → Calls Try.prog 44 #[.pointer (some ⟨oB, 0, none⟩), entV s e pd h] W fun r w' => r = .returned (.bool false) ∧ Below W.heap.size W w') := fun W hW => (holds_any oB np cp pv s e pd h W hpd hW).mono fun _ _ h => ⟨h.1, h.2.below⟩
  unfold entV at *
  cases p with
  | none =>
    obtain ⟨rfl, rfl⟩ := hB.nil rfl
    obtain ⟨rfl, rfl⟩ : s = 0 ∧ e = 0 := by omega
    clear hB
    go_enter Try.func37, Try.ntmps37
    go_wp2_with fail
    refine (HH.out _ (by rw [World.cell?_alloc_lt _ _ _ hb]; exact hc)).mono ?_
    rintro r w1 ⟨rfl, hb1⟩
    have k1 : w1.cell? ⟨w.heap.size, 0, none⟩ = some (.int .i64 0) := by rw [hb1.cell (by simp)]; simp
    have k2 : w1.cell? ⟨w.heap.size, 1, none⟩ = some (.int .i64 0) := by rw [hb1.cell (by simp)]; simp
    have HB1 : Hid (Below w.heap.size w w1) := below_tr (HB.out _) hb1
    have HR : Hid (∀ W : World, Calls Try.prog 45 #[.slice none 0 0] W fun r w' => r = .returned (.int .u64 ((headK 8 (seg f 0 0) : Nat) : Int)) ∧ Below W.heap.size W w') := fun W => head_any none 0 0 f W (by omega) (fun i hi => by omega) (fun x hx => by cases hx) (fun i hi => by omega)
    clear hb1
    go_wp2_with fail
    refine (HR.out _).mono ?_
    rintro r w2 ⟨rfl, hb2⟩
    have HB2 : Hid (Below w.heap.size w w2) := below_tr HB1.out hb2
    clear hb2
    go_wp2
    go_ret
    exact ⟨rfl, HB2.out⟩
  | some x =>
    have hr : ∀ (q : Option Addr) (cc : Nat), q = (if c = s then some x else some (x.add s)) → ∀ W, Below w.heap.size w W → Calls Try.prog 45 #[.slice q (e - s) cc] W fun r w' => r = .returned (.int .u64 ((headK 8 (seg f s e) : Nat) : Int)) ∧ Below W.heap.size W w' := fun q cc hq W hW => by
      subst hq
      have h' := head_any (if c = s then some x else some (x.add s)) (e - s) cc (fun i => f (s + i)) W (by have := hB.len; omega) ((hB.rd.sub s e h2 hB.le).below hW) (sub_blk hB.blk c s) (fun i hi => hB.byte _ (by omega))
      rwa [seg_shift] at h'
    have q1 := hB.le
    have q2 := hB.cap
    have HR : Hid _ := hr
    clear hB hr
    go_enter Try.func37, Try.ntmps37
    go_wp2_with fail
    refine (HH.out _ (by rw [World.cell?_alloc_lt _ _ _ hb]; exact hc)).mono ?_
    rintro r w1 ⟨rfl, hb1⟩
    have k1 : w1.cell? ⟨w.heap.size, 0, none⟩ = some (.int .i64 (s : Int)) := by rw [hb1.cell (by simp)]; simp
    have k2 : w1.cell? ⟨w.heap.size, 1, none⟩ = some (.int .i64 (e : Int)) := by rw [hb1.cell (by simp)]; simp
    have HB1 : Hid (Below w.heap.size w w1) := below_tr (HB.out _) hb1
    clear hb1
    go_wp2_with fail
    all_goals
      refine (HR.out _ _ (by simp [*]) _ HB1.out).mono ?_
      rintro r w2 ⟨rfl, hb2⟩
      have HB2 : Hid (Below w.heap.size w w2) := below_tr HB1.out hb2
      clear hb2
      go_wp2
      go_ret
      exact ⟨rfl, HB2.out⟩
end Go.Proofs.Qxb6608761a
