import Derived.Test.Qxb6613595aFmtOrZ9
namespace Go.Proofs.Qxb6613595aFmt
open Go.RowKit Go.Maps Go.Extern.Stop Go.Stop Go.Extern
attribute [local go_sem ↓] Go.wp_at_zero Go.wp_at_succ
set_option linter.unusedVariables false

/-- The events as they came in. -/
structure RdZ1 (w : World) (b o : Nat) (z : Zv) : Prop where
  c0 : w.cell? ⟨b, o, none⟩ = some (.string z.host)
  c1 : w.cell? ⟨b, o + 1, none⟩ = some (.slice z.hp z.hn z.hc)
  c2 : w.cell? ⟨b, o + 2, none⟩ = some (.slice z.cp z.cn z.cc)
  c3 : w.cell? ⟨b, o + 3, none⟩ = some (.string z.text)
  c4 : w.cell? ⟨b, o + 4, none⟩ = some (.int .i64 z.line)
  c5 : w.cell? ⟨b, o + 5, none⟩ = some (.string z.file)
  c6 : w.cell? ⟨b, o + 6, none⟩ = some (.string z.exec)
  hs : RdS w z.hp z.hn (fun j => .string (z.Hs j))
  cs : RdS w z.cp z.cn (fun j => .int .u64 (z.Cs j : Nat))
  cb : ∀ j, j < z.cn → z.Cs j < 18446744073709551616
  lw : (Lit.int .i64 z.line).wf = true
  lt : z.host.size ≤ 9223372036854775807 ∧ z.text.size ≤ 9223372036854775807 ∧ z.file.size ≤ 9223372036854775807 ∧ z.exec.size ≤ 9223372036854775807 ∧ z.hn ≤ 9223372036854775807 ∧ z.cn ≤ 9223372036854775807 ∧ ∀ j, j < z.hn → (z.Hs j).size ≤ 9223372036854775807
def RdZ (w : World) (q : Option Addr) (n : Nat) (z : Nat → Zv) : Prop := ∀ i, i < n → ∃ b o, q = some ⟨b, o, none⟩ ∧ RdZ1 w b (o + i * 7) (z i)
theorem RdZ1.below {w w' : World} {b o : Nat} {z : Zv} (h : RdZ1 w b o z) (hb : Below w.heap.size w w') : RdZ1 w' b o z := ⟨kc hb h.c0, kc hb h.c1, kc hb h.c2, kc hb h.c3, kc hb h.c4, kc hb h.c5, kc hb h.c6, h.hs.below hb, h.cs.below hb, h.cb, h.lw, h.lt⟩
theorem RdZ.below {w w' : World} {q : Option Addr} {n : Nat} {z : Nat → Zv} (h : RdZ w q n z) (hb : Below w.heap.size w w') : RdZ w' q n z := fun i hi => by
  obtain ⟨b, o, h1, h2⟩ := h i hi
  exact ⟨b, o, h1, h2.below hb⟩
/-- What the first guard bounds. -/
structure Bz (z : Zv) : Prop where
  host : z.host.size ≤ 1048576
  text : z.text.size ≤ 1048576
  file : z.file.size ≤ 1048576
  exec : z.exec.size ≤ 1048576
  hn : z.hn ≤ 1048576
  cn : z.cn ≤ 1048576
  hs : ∀ j, j < z.hn → (z.Hs j).size ≤ 1048576

/-- A bool is returned; if it is true, P holds. -/
def Says (e : Ending) (P : Prop) : Prop := ∃ r, e = .returned (.bool r) ∧ (r = true → P)
theorem Says.no (P : Prop) : Says (.returned (.bool false)) P := ⟨false, rfl, fun h => by cases h⟩
theorem Says.yes {P : Prop} (h : P) : Says (.returned (.bool true)) P := ⟨true, rfl, fun _ => h⟩

set_option maxRecDepth 20000 in
set_option maxHeartbeats 32000000 in
theorem zz4_any (q : Option Addr) (n cp : Nat) (z : Nat → Zv) (k a : Int) (w : World) (hR : RdZ w q n z) (hn : n ≤ 9223372036854775807) :
    Calls Tryf.prog 4 #[.slice q n cp, .int .i64 k, .int .i64 a] w fun e w' => w' = w ∧ Says e (∀ i, i < n → Bz (z i)) := by
  have HR : Hid (RdZ w q n z) := hR
  clear hR
  go_enter Tryf.func4, Tryf.ntmps4
  go_wp2_with fail
  any_goals (go_ret; exact ⟨rfl, Says.no _⟩)
  go_loopg [7, 8] n (fun g s7 s8 wr => ∃ (p : Nat) (t : Int), s8 = .int .i64 (p : Int) ∧ s7 = .int .i64 t ∧ p ≤ n ∧ n - p ≤ g ∧ 0 ≤ t ∧ t ≤ 1048576 ∧ Hid (wr = w ∧ ∀ i, i < p → Bz (z i)))
  case atStart => exact ⟨0, _, rfl, rfl, by omega, by omega, by omega, by omega, rfl, fun i hi => absurd hi (Nat.not_lt_zero _)⟩
  case round =>
    obtain ⟨p, t, rfl, rfl, g1, g2, t1, t2, hh⟩ := hrel
    obtain ⟨rfl, HB⟩ := hh.out
    by_cases hlt : p < n
    · obtain ⟨b, o, rfl, r⟩ := HR.out p hlt
      have HBz : Hid (∀ i, i < p → Bz (z i)) := HB
      clear hh HB
      have i3 : (p : Int) < (n : Int) := by omega
      obtain ⟨c0, c1, c2, c3, c4, c5, c6, hs, cs, _, _, l1, l2, l3, l4, l5, l6, l7⟩ := r
      obtain ⟨zz, hzz⟩ : ∃ x, z p = x := ⟨_, rfl⟩
      rw [hzz] at c0 c1 c2 c3 c4 c5 c6 hs cs l1 l2 l3 l4 l5 l6 l7
      have HZ : Hid (z p = zz) := hzz
      clear hzz
      obtain ⟨host, hp, hn', hc, Hs, cp', cn, cc, Cs, text, line, file, exec⟩ := zz
      simp only at c0 c1 c2 c3 c4 c5 c6 hs cs l1 l2 l3 l4 l5 l6 l7
      have HS : Hid (RdS wr hp hn' (fun j => .string (Hs j)) ∧ ∀ j, j < hn' → (Hs j).size ≤ 9223372036854775807) := ⟨hs, l7⟩
      clear hs cs l7
      go_wp2_with fail
      any_goals (go_ret; exact ⟨rfl, Says.no _⟩)
      go_loopg [7, 9] hn' (fun g s7 s9 wr' => ∃ (j : Nat) (t : Int), s9 = .int .i64 (j : Int) ∧ s7 = .int .i64 t ∧ j ≤ hn' ∧ hn' - j ≤ g ∧ 0 ≤ t ∧ t ≤ 1048576 ∧ Hid (wr' = wr ∧ ∀ i, i < j → (Hs i).size ≤ 1048576))
      case atStart => exact ⟨0, _, rfl, rfl, by omega, by omega, by omega, by omega, rfl, fun i hi => absurd hi (Nat.not_lt_zero _)⟩
      case round =>
        obtain ⟨j, t, rfl, rfl, g1, g2, t1, t2, hh⟩ := hrel
        obtain ⟨rfl, HB⟩ := hh.out
        have HB2 : Hid (∀ i, i < j → (Hs i).size ≤ 1048576) := HB
        clear hh HB
        by_cases hlt2 : j < hn'
        · obtain ⟨b', o', rfl, d0⟩ := HS.out.1 j hlt2
          have l7 := HS.out.2 j hlt2
          simp only at d0
          have i4 : (j : Int) < (hn' : Int) := by omega
          have HE : Hid ((Hs j).size ≤ 1048576 → ∀ i, i < j + 1 → (Hs i).size ≤ 1048576) := fun h i hi => by
            by_cases e : i = j
            · rw [e]; exact h
            · exact HB2.out i (by omega)
          generalize Hs j = sj at d0 l7 HE
          go_wp2_with fail
          any_goals (go_ret; exact ⟨rfl, Says.no _⟩)
          go_roundg (hn' - (j + 1))
          case measure => omega
          case rel => exact ⟨j + 1, _, by rw [show (j : Int) + 1 = ((j + 1 : Nat) : Int) by omega], rfl, by omega, Nat.le_refl _, by omega, by omega, rfl, HE.out (by omega)⟩
        · obtain rfl : j = hn' := by omega
          go_wp2_with fail
          any_goals (go_ret; exact ⟨rfl, Says.no _⟩)
          go_roundg (n - (p + 1))
          case measure => omega
          case rel => exact ⟨p + 1, _, by rw [show (p : Int) + 1 = ((p + 1 : Nat) : Int) by omega], rfl, by omega, Nat.le_refl _, by omega, by omega, rfl, fun i hi => by
            by_cases e : i = p
            · rw [e, HZ.out]; exact ⟨by simp only; omega, by simp only; omega, by simp only; omega, by simp only; omega, by simp only; omega, by simp only; omega, HB2.out⟩
            · exact HBz.out i (by omega)⟩
    · obtain rfl : p = n := by omega
      go_wp2_with fail
      go_ret
      exact ⟨rfl, Says.yes HB⟩
end Go.Proofs.Qxb6613595aFmt
