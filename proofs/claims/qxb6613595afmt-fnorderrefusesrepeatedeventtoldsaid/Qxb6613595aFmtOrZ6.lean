import Derived.Test.Qxb6613595aFmtOrZ5
import Derived.Laws.Cover1
namespace Go.Proofs.Qxb6613595aFmt
open Go.RowKit Go.Maps Go.Extern.Stop Go.Stop Go.Extern
attribute [local go_sem ↓] Go.wp_at_zero Go.wp_at_succ
set_option linter.unusedVariables false

theorem bl_drewN {B : Nat} {a w : World} (h : Below B a w) (n : Nat) : Below B a (w.drewN n) := h.trans ⟨rfl, rfl, rfl, Nat.le_refl _, fun _ _ => rfl⟩

set_option maxRecDepth 20000 in
set_option maxHeartbeats 32000000 in
theorem zz6_any (q : Option Addr) (n cp : Nat) (z : Nat → Zv) (w : World) (hR : RdZ w q n z) (hn : n ≤ 4096) (hB : ∀ i, i < n → Bz (z i)) :
    Calls Tryf.prog 6 #[.slice q n cp] w fun e w' => Below w.heap.size w w' ∧ Says e (∀ i, i < n → (z i).hn = (z i).cn) := by
  have HR : Hid (RdZ w q n z ∧ ∀ i, i < n → Bz (z i)) := ⟨hR, hB⟩
  clear hR hB
  go_enter Tryf.func6, Tryf.ntmps6
  go_wp2_with fail
  go_loopg [3] n (fun g s3 wr => ∃ (p : Nat), s3 = .int .i64 (p : Int) ∧ p ≤ n ∧ n - p ≤ g ∧ Hid (Below w.heap.size w wr ∧ ∀ i, i < p → (z i).hn = (z i).cn))
  case atStart => exact ⟨0, rfl, by omega, by omega, Below.refl _ _, fun i hi => absurd hi (Nat.not_lt_zero _)⟩
  case round =>
    obtain ⟨p, rfl, g1, g2, hh⟩ := hrel
    by_cases hlt : p < n
    · obtain ⟨b, o, rfl, r⟩ := HR.out.1 p hlt
      have r := r.below (hh.out.1.mono (Nat.le_refl _))
      obtain ⟨b1, b2, b3, b4, b5, b6, b7⟩ := HR.out.2 p hlt
      have i3 : (p : Int) < (n : Int) := by omega
      obtain ⟨c0, c1, c2, c3, c4, c5, c6, hs, cs, cb, _, _⟩ := r
      have HZ : Hid ((z p).hn = (z p).cn → ∀ i, i < p + 1 → (z i).hn = (z i).cn) := fun h i hi => by
        by_cases e : i = p
        · rw [e]; exact h
        · exact hh.out.2 i (by omega)
      obtain ⟨zz, hzz⟩ : ∃ x, z p = x := ⟨_, rfl⟩
      rw [hzz] at c0 c1 c2 c3 c4 c5 c6 hs cs cb b5 b6 HZ
      clear hzz b1 b2 b3 b4 b7
      obtain ⟨host, hp, hn', hc, Hs, cp', cn, cc, Cs, text, line, file, exec⟩ := zz
      simp only at c0 c1 c2 c3 c4 c5 c6 hs cs cb b5 b6 HZ
      obtain ⟨W2, hW2⟩ : ∃ W2, wr.alloc (Obj.cells #[.string host, .slice hp hn' hc, .slice cp' cn cc, .string text, .int .i64 line, .string file, .string exec] 36) = W2 := ⟨_, rfl⟩
      have HW : Hid (Below w.heap.size w W2) := by rw [← hW2]; exact hh.out.1.alloc hh.out.1.size _
      have k0 : W2.heap[wr.heap.size]? = some (.cells #[.string host, .slice hp hn' hc, .slice cp' cn cc, .string text, .int .i64 line, .string file, .string exec] 36 (0, 0)) := by rw [← hW2]; exact heap_alloc_new wr _
      have d1 := cell_blk k0 1
      have d2 := cell_blk k0 2
      simp at d1 d2
      have b2 : Below wr.heap.size wr W2 := by rw [← hW2]; exact (Below.refl _ wr).alloc (Nat.le_refl _) _
      have HS : Hid (RdS W2 hp hn' (fun j => .string (Hs j)) ∧ RdS W2 cp' cn (fun j => .int .u64 (Cs j : Nat)) ∧ ∀ j, j < cn → Cs j < 18446744073709551616) := ⟨hs.below b2, cs.below b2, cb⟩
      have hlt3 : wr.heap.size < W2.heap.size := blk_lt k0
      obtain ⟨X, hX⟩ : ∃ X, wr.heap.size = X := ⟨_, rfl⟩
      clear hs cs k0 b2 cb
      go_upto_region 5 with fail
      rw [hX] at d1 d2 hlt3
      clear hW2 hX c0 c1 c2 c3 c4 c5 c6
      by_cases hcn : hn' = cn
      case neg =>
        have hcn' : ¬ (hn' : Int) = (cn : Int) := by omega
        go_wp2_with fail
        go_ret
        exact ⟨HW.out, Says.no _⟩
      subst hcn
      go_wp2_with fail
      have HK : Hid (W2.cell? ⟨X, 1, none⟩ = some (.slice hp hn' hc) ∧ W2.cell? ⟨X, 2, none⟩ = some (.slice cp' hn' cc)) := ⟨d1, d2⟩
      clear d1 d2
      go_loopg [5] hn' (fun g s5 wr => ∃ (j : Nat), s5 = .int .i64 (j : Int) ∧ j ≤ hn' ∧ hn' - j ≤ g ∧ Hid (Below W2.heap.size W2 wr))
      case atStart => exact ⟨0, rfl, by omega, by omega, Below.refl _ _⟩
      case round =>
        obtain ⟨j, rfl, g1, g2, hh2⟩ := hrel
        have d1 := kc hh2.out HK.out.1
        have d2 := kc hh2.out HK.out.2
        by_cases hlt2 : j < hn'
        · obtain ⟨b', o', rfl, e0⟩ := HS.out.1 j hlt2
          obtain ⟨b'', o'', rfl, e1⟩ := HS.out.2.1 j hlt2
          have e0 := kc hh2.out e0
          have e1 := kc hh2.out e1
          have l7 := HS.out.2.2 j hlt2
          have i4 : (j : Int) < (hn' : Int) := by omega
          have i5 : (hn' : Int) ≤ 1048576 := by omega
          have HD : Hid (Below w.heap.size w wr) := HW.out.trans (hh2.out.mono (HW.out.size))
          simp only at e0 e1
          generalize Cs j = sc at e1 l7
          go_upto_region 12 with fail
          · go_ret
            exact ⟨HD.out, Says.no _⟩
          · clear e1 d2
            by_cases hj : j = 0
            · subst hj
              have i6 : ¬ (0 : Int) < ((0 : Nat) : Int) := by omega
              have i7 : decide ((0 : Int) < ((0 : Nat) : Int)) = false := by decide
              go_quiet (fail)
              go_wp2_with fail
              go_roundg (hn' - (0 + 1))
              case measure => omega
              case rel => exact ⟨0 + 1, by simp, by omega, Nat.le_refl _, bl_drewN hh2.out _⟩
            · obtain ⟨j', rfl⟩ : ∃ j', j = j' + 1 := ⟨j - 1, by omega⟩
              obtain ⟨b3, o3, he, e3⟩ := HS.out.1 j' (by omega)
              have e3 := kc hh2.out e3
              simp only at e3
              injection he with he
              injection he with he1 he2
              subst he1
              subst he2
              generalize Hs j' = sa at e3
              generalize Hs (j' + 1) = sb at e0
              have i8 : (j' : Int) ≤ 1048576 := by omega
              have i9 : (j' : Int) < (hn' : Int) := by omega
              have i12 : j' < hn' := by omega
              have i13 : (j' : Int) + 1 < (hn' : Int) := by omega
              have i14 : 0 ≤ (j' : Int) + 1 := by omega
              have i15 : ((j' : Int) + 1).toNat = j' + 1 := by omega
              have i7 : decide ((0 : Int) < ((j' + 1 : Nat) : Int)) = true := decide_eq_true (by omega)
              have i6 : ((j' + 1 : Nat) : Int) - 1 = (j' : Int) := by omega
              have hwr : IntKind.i64.wrap (j' : Int) = (j' : Int) := by rw [IntKind.wrap_i64]; omega
              go_quiet (fail)
              go_wp2_with fail
              any_goals (go_ret; exact ⟨bl_drewN HD.out _, Says.no _⟩)
              go_roundg (hn' - (j' + 1 + 1))
              case measure => omega
              case rel => exact ⟨j' + 1 + 1, by rw [show (j' : Int) + 1 + 1 = ((j' + 1 + 1 : Nat) : Int) by omega], by omega, Nat.le_refl _, bl_drewN hh2.out _⟩
        · obtain rfl : j = hn' := by omega
          have HD : Hid (Below w.heap.size w wr) := HW.out.trans (hh2.out.mono (HW.out.size))
          go_wp2_with fail
          go_roundg (n - (p + 1))
          case measure => omega
          case rel => exact ⟨p + 1, by rw [show (p : Int) + 1 = ((p + 1 : Nat) : Int) by omega], by omega, Nat.le_refl _, HD.out, HZ.out trivial⟩
    · obtain rfl : p = n := by omega
      go_wp2_with fail
      go_ret
      exact ⟨hh.out.1, Says.yes hh.out.2⟩
end Go.Proofs.Qxb6613595aFmt
