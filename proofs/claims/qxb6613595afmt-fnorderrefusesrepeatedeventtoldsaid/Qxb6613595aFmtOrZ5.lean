import Derived.Test.Qxb6613595aFmtOrZ4
namespace Go.Proofs.Qxb6613595aFmt
open Go.RowKit Go.Maps Go.Extern.Stop Go.Stop Go.Extern
attribute [local go_sem ↓] Go.wp_at_zero Go.wp_at_succ
set_option linter.unusedVariables false

/-- How many entries the first m events hold. -/
def SZ (z : Nat → Zv) : Nat → Nat
  | 0 => 0
  | m + 1 => SZ z m + (z m).hn
/-- An int is returned; if it is not above the limit, P holds. -/
def SaysI (e : Ending) (P : Prop) : Prop := ∃ t : Int, e = .returned (.int .i64 t) ∧ (t ≤ 1048576 → P)
theorem SaysI.mk {t : Int} {P : Prop} (h : t ≤ 1048576 → P) : SaysI (.returned (.int .i64 t)) P := ⟨t, rfl, h⟩

set_option maxRecDepth 20000 in
set_option maxHeartbeats 32000000 in
theorem zz5_any (q : Option Addr) (n cp : Nat) (z : Nat → Zv) (w : World) (hR : RdZ w q n z) (hn : n ≤ 4096) (hB : ∀ i, i < n → Bz (z i)) :
    Calls Tryf.prog 5 #[.slice q n cp] w fun e w' => Below w.heap.size w w' ∧ SaysI e (16 * SZ z n ≤ 1048576) := by
  have HR : Hid (RdZ w q n z ∧ ∀ i, i < n → Bz (z i)) := ⟨hR, hB⟩
  clear hR hB
  go_enter Tryf.func5, Tryf.ntmps5
  go_wp2_with fail
  go_loopg [3, 4] n (fun g s3 s4 wr => ∃ (p : Nat) (t : Int), s4 = .int .i64 (p : Int) ∧ s3 = .int .i64 t ∧ p ≤ n ∧ n - p ≤ g ∧ 0 ≤ t ∧ t ≤ 1048576 ∧ 16 * (SZ z p : Int) ≤ t ∧ Hid (Below w.heap.size w wr))
  case atStart => exact ⟨0, _, rfl, rfl, by omega, by omega, by omega, by omega, by simp [SZ], Below.refl _ _⟩
  case round =>
    obtain ⟨p, t, rfl, rfl, g1, g2, t1, t2, t3, hh⟩ := hrel
    by_cases hlt : p < n
    · obtain ⟨b, o, rfl, r⟩ := HR.out.1 p hlt
      have r := r.below (hh.out.mono (Nat.le_refl _))
      obtain ⟨b1, b2, b3, b4, b5, b6, b7⟩ := HR.out.2 p hlt
      have i3 : (p : Int) < (n : Int) := by omega
      obtain ⟨c0, c1, c2, c3, c4, c5, c6, hs, cs, _, _, _⟩ := r
      have HZ : SZ z (p + 1) = SZ z p + (z p).hn := rfl
      obtain ⟨zz, hzz⟩ : ∃ x, z p = x := ⟨_, rfl⟩
      rw [hzz] at c0 c1 c2 c3 c4 c5 c6 hs cs b1 b2 b3 b4 b5 b6 b7 HZ
      clear hzz
      obtain ⟨host, hp, hn', hc, Hs, cp', cn, cc, Cs, text, line, file, exec⟩ := zz
      simp only at c0 c1 c2 c3 c4 c5 c6 hs cs b1 b2 b3 b4 b5 b6 b7 HZ
      obtain ⟨W2, hW2⟩ : ∃ W2, wr.alloc (Obj.cells #[.string host, .slice hp hn' hc, .slice cp' cn cc, .string text, .int .i64 line, .string file, .string exec] 36) = W2 := ⟨_, rfl⟩
      have HW : Hid (Below w.heap.size w W2) := by rw [← hW2]; exact hh.out.alloc hh.out.size _
      have k0 : W2.heap[wr.heap.size]? = some (.cells #[.string host, .slice hp hn' hc, .slice cp' cn cc, .string text, .int .i64 line, .string file, .string exec] 36 (0, 0)) := by rw [← hW2]; exact heap_alloc_new wr _
      have d0 := cell_blk k0 0
      have d1 := cell_blk k0 1
      have d2 := cell_blk k0 2
      have d3 := cell_blk k0 3
      have d5 := cell_blk k0 5
      have d6 := cell_blk k0 6
      simp at d0 d1 d2 d3 d5 d6
      have HS : Hid (RdS W2 hp hn' (fun j => .string (Hs j)) ∧ ∀ j, j < hn' → (Hs j).size ≤ 1048576) := ⟨by rw [← hW2]; exact hs.below ((Below.refl _ wr).alloc (Nat.le_refl _) _), b7⟩
      clear hs cs b7 k0
      go_upto_region 6 with fail
      clear hW2 c0 c1 c2 c3 c4 c5 c6
      go_wp2_with fail
      any_goals (go_ret; exact ⟨HW.out, SaysI.mk (fun h => absurd h (by omega))⟩)
      go_loopg [3, 6] hn' (fun g s3 s6 wr' => ∃ (j : Nat) (t : Int), s6 = .int .i64 (j : Int) ∧ s3 = .int .i64 t ∧ j ≤ hn' ∧ hn' - j ≤ g ∧ 0 ≤ t ∧ t ≤ 1048576 ∧ 16 * (SZ z (p + 1) : Int) ≤ t ∧ Hid (wr' = W2))
      case atStart => exact ⟨0, _, rfl, rfl, by omega, by omega, by omega, by omega, by omega, rfl⟩
      case round =>
        obtain ⟨j, t, rfl, rfl, g1, g2, t1, t2, t4, hh2⟩ := hrel
        have hh3 := hh2.out
        subst hh3
        clear hh2
        by_cases hlt2 : j < hn'
        · obtain ⟨b', o', rfl, e0⟩ := HS.out.1 j hlt2
          have l7 := HS.out.2 j hlt2
          have i4 : (j : Int) < (hn' : Int) := by omega
          simp only at e0
          generalize Hs j = sj at e0 l7
          go_wp2_with fail
          any_goals (go_ret; exact ⟨HW.out, SaysI.mk (fun h => absurd h (by omega))⟩)
          go_roundg (hn' - (j + 1))
          case measure => omega
          case rel => exact ⟨j + 1, _, by rw [show (j : Int) + 1 = ((j + 1 : Nat) : Int) by omega], rfl, by omega, Nat.le_refl _, by omega, by omega, by omega, rfl⟩
        · obtain rfl : j = hn' := by omega
          go_wp2_with fail
          go_roundg (n - (p + 1))
          case measure => omega
          case rel => exact ⟨p + 1, _, by rw [show (p : Int) + 1 = ((p + 1 : Nat) : Int) by omega], rfl, by omega, Nat.le_refl _, by omega, by omega, by omega, HW⟩
    · obtain rfl : p = n := by omega
      go_wp2_with fail
      go_ret
      exact ⟨hh.out, SaysI.mk (fun h => by omega)⟩
end Go.Proofs.Qxb6613595aFmt
