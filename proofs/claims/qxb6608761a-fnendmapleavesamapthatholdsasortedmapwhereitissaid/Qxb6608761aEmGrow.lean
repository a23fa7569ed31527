import Derived.Test.Qxb6608761aEmZz
import Derived.Lib.AppendZeros
namespace Go.Proofs.Qxb6608761a
open Go.RowKit Go.Sort

structure Room (w w' : World) (m cap : Nat) : Prop where
  own : w'.ownsRow w.heap.size 77 4 (.slice (some ⟨w.heap.size, 0, none⟩) 0 cap) 0 []
  le : m ≤ cap
  below : Below w.heap.size w w'

theorem zerosE (w : World) (m : Nat) (h1 : 1 ≤ m) (h2 : m ≤ 65536) :
    ∃ cap W1, Sem.run Try.prog (Builtin.append_ #[66, 3] 66 #[.slice none 0 0, .int .i64 m]) w = .ok (.slice (some ⟨w.heap.size, 0, none⟩) m cap) W1 ∧ Room w W1 m cap := by
  obtain ⟨i, hi, hz, hs, hby⟩ := info_parts info77
  have h := Lib.run_append_nil_zeros (P := Try.prog) w 66 3 66 77 i _ .i64 .i64 Try.underlying66 (by kernel_rfl) hi hz m (by omega) (by omega) (by omega) (by rw [hby]; omega)
  have hge := grownCap_ge w m 0 77
  have hcm : grownCap w m 0 77 ≤ maxLen := grownCap_le_maxLen w m 0 77 (by simp only [maxLen]; omega)
  refine ⟨_, _, h, ⟨rfl, .inr ⟨_, _, _, rfl, Nat.le_refl _, heap_alloc_new w.drew _, Nat.zero_le _, hcm, ?_, by simp⟩⟩, hge, (Below.refl _ _).drew.alloc (Nat.le_refl _) _⟩
  simp only [Array.size_append, size_zeroCells, Value.cells]
  show m * 4 + (grownCap w m 0 77 - m) * 4 = _
  omega

set_option maxRecDepth 20000 in
theorem Grow_any (w : World) (m : Nat) (h1 : 1 ≤ m) (h2 : m ≤ 65536) : Calls Try.prog 42 #[.slice none 0 0, .int .i64 m] w fun r w' => ∃ cap, r = .returned (.slice (some ⟨w.heap.size, 0, none⟩) 0 cap) ∧ Room w w' m cap := by
  obtain ⟨cap, W1, hr, hR⟩ := zerosE w m h1 h2
  have hle := hR.le
  have HQ : Hid _ := hr
  have HR : Hid _ := hR
  clear hr hR
  have h0 : ¬ m = 0 := by omega
  have h3 : 0 < m := by omega
  have hcap : cap ≤ 9223372036854775807 := by
    rcases HR.out.own.2 with ⟨h, _⟩ | ⟨_, c, _, h, _, _, _, h4, _⟩
    · cases h
    · simp only [Value.slice.injEq, true_and] at h; rw [h.2]; simp only [maxLen] at h4; exact h4
  go_enter Try.func42, Try.ntmps42
  go_wp2_with (at_builtin; refine wpList_append_run rfl (.tmp 20) (.tmp 21) 66 3 rfl _ _ _ rfl rfl HQ.out ?_)
  go_wp2
  go_ret
  exact ⟨_, rfl, HR.out⟩
set_option maxRecDepth 20000 in
theorem grow_any (w : World) (m : Nat) (h1 : 1 ≤ m) (h2 : m ≤ 65536) : Calls Try.prog 35 #[.slice none 0 0, .int .i64 m] w fun r w' => ∃ cap, r = .returned (.slice (some ⟨w.heap.size, 0, none⟩) 0 cap) ∧ Room w w' m cap := by
  have h0 : ¬ m = 0 := by omega
  have h3 : 0 < m := by omega
  have HG : Hid _ := Grow_any w m h1 h2
  go_enter Try.func35, Try.ntmps35
  go_wp2_with fail
  go_at_call 42
  refine Calls.mono HG.out ?_
  rintro e w1 ⟨cap, rfl, hR⟩
  have HR : Hid _ := hR
  clear hR
  go_wp2
  go_ret
  exact ⟨_, rfl, HR.out⟩
end Go.Proofs.Qxb6608761a
