import Derived.Test.Qxb6608761aEmCm2
namespace Go.Proofs.Qxb6608761a
open Go.RowKit

set_option maxHeartbeats 800000 in
theorem cmpU_any (a b : Nat) (w : World) :
    Calls Try.prog 40 #[.int .u64 (a : Int), .int .u64 (b : Int)] w fun r w' => r = .returned (.int .i64 (if a < b then (-1 : Int) else if b < a then 1 else 0)) ∧ w' = w := by
  by_cases h1 : a < b
  · go_enter Try.func40, Try.ntmps40
    go_wp2
    go_ret
    exact ⟨by simp, rfl⟩
  · by_cases h2 : b < a
    · go_enter Try.func40, Try.ntmps40
      go_wp2
      go_ret
      exact ⟨by simp, rfl⟩
    · go_enter Try.func40, Try.ntmps40
      go_wp2
      go_ret
      exact ⟨by simp, rfl⟩

set_option maxHeartbeats 3200000 in
set_option maxRecDepth 20000 in
theorem closure_any (oB np cp bo bb : Nat) (pv : Option Addr) (p : Option Addr) (n c : Nat) (f : Nat → Nat) (s1 e1 d1 s2 e2 d2 : Nat) (w : World) (hd1 : np ≤ d1) (hd2 : np ≤ d2) (hc : w.cell? ⟨oB, 1, none⟩ = some (.slice pv np cp))
    (hbo : w.cell? ⟨bo, 0, none⟩ = some (.pointer (some ⟨oB, 0, none⟩))) (hbb : w.cell? ⟨bb, 0, none⟩ = some (.slice p n c))
    (hB : Bd w p n c f) (a1 : s1 ≤ e1) (a2 : e1 ≤ n) (b1 : s2 ≤ e2) (b2 : e2 ≤ n) :
    Calls Try.prog 39 #[entV s1 e1 d1 (headK 8 (seg f s1 e1)), entV s2 e2 d2 (headK 8 (seg f s2 e2)), .pointer (some ⟨bo, 0, none⟩), .pointer (some ⟨bb, 0, none⟩)] w fun r w' => r = .returned (.int .i64 (cmpN (seg f s1 e1) (seg f s2 e2))) ∧ Gr w w' := by
  have HG : Hid (∀ o o', Gr w ((w.alloc o).alloc o')) := fun o o' => ((Gr.refl w).alloc o).alloc o'
  have hf := head_first (seg f s1 e1) (seg f s2 e2) (fun x hx => by obtain ⟨i, _, hi, rfl⟩ := seg_mem hx; exact hB.byte i (by omega)) (fun x hx => by obtain ⟨i, _, hi, rfl⟩ := seg_mem hx; exact hB.byte i (by omega))
  have HC : Hid (∀ W : World, Gr w W → Calls Try.prog 41 #[.pointer (some ⟨oB, 0, none⟩), .slice p n c, entV s1 e1 d1 (headK 8 (seg f s1 e1)), entV s2 e2 d2 (headK 8 (seg f s2 e2))] W fun r w' => r = .returned (.int .i64 (cmpN (seg f s1 e1) (seg f s2 e2))) ∧ Gr W w') :=
    fun W hW => compareM_any oB np cp pv p n c f s1 e1 d1 _ s2 e2 d2 _ W hd1 hd2 ((hW.below.cell (World.block_lt_of_cell? _ _ hc)).trans hc) (hB.below hW.below) a1 a2 b1 b2
  have ho := World.block_lt_of_cell? _ _ hbo
  have hb := World.block_lt_of_cell? _ _ hbb
  unfold entV at *
  generalize headK 8 (seg f s1 e1) = h1 at *
  generalize headK 8 (seg f s2 e2) = h2 at *
  clear hB hc
  by_cases u1 : h1 < h2
  · rw [if_pos u1] at hf
    have HU : Hid (∀ W : World, Calls Try.prog 40 #[.int .u64 (h1 : Int), .int .u64 (h2 : Int)] W fun r w' => r = .returned (.int .i64 (-1)) ∧ w' = W) := fun W => by have h := cmpU_any h1 h2 W; rwa [if_pos u1] at h
    have HF : Hid _ := hf
    clear hf
    go_enter Try.func39, Try.ntmps39
    go_wp2_with fail
    refine (HU.out _).mono ?_
    rintro r w1 ⟨rfl, rfl⟩
    go_wp2_with fail
    go_ret
    exact ⟨congrArg (fun z => Ending.returned (Value.int IntKind.i64 z)) HF.out, HG.out _ _⟩
  · by_cases u2 : h2 < h1
    · rw [if_neg u1, if_pos u2] at hf
      have HU : Hid (∀ W : World, Calls Try.prog 40 #[.int .u64 (h1 : Int), .int .u64 (h2 : Int)] W fun r w' => r = .returned (.int .i64 1) ∧ w' = W) := fun W => by have h := cmpU_any h1 h2 W; rwa [if_neg u1, if_pos u2] at h
      have HF : Hid _ := hf
      clear hf
      go_enter Try.func39, Try.ntmps39
      go_wp2_with fail
      refine (HU.out _).mono ?_
      rintro r w1 ⟨rfl, rfl⟩
      go_wp2_with fail
      go_ret
      exact ⟨congrArg (fun z => Ending.returned (Value.int IntKind.i64 z)) HF.out, HG.out _ _⟩
    · have HU : Hid (∀ W : World, Calls Try.prog 40 #[.int .u64 (h1 : Int), .int .u64 (h2 : Int)] W fun r w' => r = .returned (.int .i64 0) ∧ w' = W) := fun W => by have h := cmpU_any h1 h2 W; rwa [if_neg u1, if_neg u2] at h
      clear hf
      go_enter Try.func39, Try.ntmps39
      go_wp2_with fail
      refine (HU.out _).mono ?_
      rintro r w1 ⟨rfl, rfl⟩
      go_wp2_with fail
      refine (HC.out _ (HG.out _ _)).mono ?_
      rintro r w2 ⟨rfl, hg⟩
      have HG2 : Hid (Gr w w2) := (HG.out _ _).trans hg
      clear hg
      go_wp2_with fail
      go_ret
      exact ⟨rfl, HG2.out⟩
end Go.Proofs.Qxb6608761a
