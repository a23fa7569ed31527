import Derived.Test.Qxb6613595aFmtOrLaw
import Derived.WalkKit
import Derived.ProofKit
import Derived.OpenShut
import Derived.Deep.Strs
namespace Go.Proofs.Qxb6613595aFmt
open Go.ChangeShapes Go.WideShapes Go.ChangeAt Go.RowKit
set_option linter.unusedVariables false

theorem spot_none {w : World} {a : Addr} {v : Value} (h : w.cell? a = some v) : a.spot = none := by
  unfold World.cell? at h
  split at h
  · split at h
    · cases h
    · next hs => cases hsp : a.spot with
      | none => rfl
      | some x => rw [hsp] at hs; simp at hs
  · cases h
/-- A row of cells behind an address is a row in a block. -/
theorem rdS_of {w : World} {a : Addr} {n : Nat} {f : Nat → Value} (h : ∀ i, i < n → w.cell? (a.add i) = some (f i)) : RdS w (some a) n f := fun j hj => by
  have h0 := h 0 (by omega)
  have hs : a.spot = none := spot_none (by simpa [Addr.add] using h0)
  obtain ⟨b, o, s⟩ := a
  simp only at hs
  subst hs
  have h1 := h j hj
  rw [Addr.add_lit] at h1
  exact ⟨b, o, rfl, h1⟩

section
variable {H : Type} {enc : TypeId × Value → H} {W : World} {base : Nat} {sp : Nat → Bool} {held : Bool}
theorem strs_of {fuel : Nat} {x : DataW H × List MemPlace} {v : Value} (h : DataW.trod enc Tryf.prog W base sp held fuel 33 [v] = some x) :
    ∃ (q : Option Addr) (n c : Nat) (Hs : Nat → ByteArray), v = .slice q n c ∧ n ≤ maxLen ∧ RdS W q n (fun j => .string (Hs j)) ∧ ∀ j, j < n → (Hs j).size ≤ maxLen := by
  rcases Go.Deep.open_strs (P := Tryf.prog) Tryf.underlying33 Tryf.underlying9 (by kernel_rfl) h with ⟨hcs, _⟩ | ⟨a, len, cap, m, Sx, hcs, _, hl, hm, hmm, _, hcell⟩
  · simp only [List.cons.injEq, and_true] at hcs
    exact ⟨none, 0, 0, fun _ => ⟨#[]⟩, hcs, Nat.zero_le _, fun j hj => absurd hj (Nat.not_lt_zero _), fun j hj => absurd hj (Nat.not_lt_zero _)⟩
  · simp only [List.cons.injEq, and_true] at hcs
    have hlm : len ≤ m := by rw [hmm]; split <;> omega
    exact ⟨some a, len, cap, Sx, hcs, by omega, rdS_of fun i hi => (hcell i (by omega)).1, fun j hj => (hcell j (by omega)).2⟩
theorem ints_of {fuel : Nat} {x : DataW H × List MemPlace} {v : Value} (h : DataW.trod enc Tryf.prog W base sp held fuel 34 [v] = some x) :
    ∃ (q : Option Addr) (n c : Nat) (Cs : Nat → Nat), v = .slice q n c ∧ n ≤ maxLen ∧ RdS W q n (fun j => .int .u64 (Cs j : Nat)) ∧ ∀ j, j < n → Cs j < 18446744073709551616 := by
  rcases open_ints (P := Tryf.prog) Tryf.underlying34 Tryf.underlying42 (by kernel_rfl) h with ⟨hcs, _⟩ | ⟨y, len, cap, zs, hcs, _, hl, hm, hz, _, hcell, hwz⟩
  · simp only [List.cons.injEq, and_true] at hcs
    exact ⟨none, 0, 0, fun _ => 0, hcs, Nat.zero_le _, fun j hj => absurd hj (Nat.not_lt_zero _), fun j hj => absurd hj (Nat.not_lt_zero _)⟩
  · simp only [List.cons.injEq, and_true] at hcs
    have hlz : len ≤ zs.length := by rw [hz]; split <;> omega
    have hb : ∀ i, i < len → 0 ≤ zs.getD i 0 ∧ zs.getD i 0 < 18446744073709551616 := fun i hi => by
      have hw := hwz (zs.getD i 0) (by rw [List.getD_eq_getElem?_getD, List.getElem?_eq_getElem (by omega)]; exact List.getElem_mem _)
      simp only [Lit.wf, Bool.and_eq_true, decide_eq_true_eq] at hw
      have e1 : IntKind.u64.min = 0 := rfl
      have e2 : IntKind.u64.max = 18446744073709551615 := rfl
      rw [e1, e2] at hw
      omega
    refine ⟨some y, len, cap, fun i => (zs.getD i 0).toNat, hcs, by omega, rdS_of fun i hi => ?_, fun j hj => by have := hb j hj; simp only; omega⟩
    rw [hcell i (by omega)]
    have := hb i hi
    simp only
    rw [show (((zs.getD i 0).toNat : Nat) : Int) = zs.getD i 0 by omega]

set_option maxRecDepth 100000 in
/-- One event, opened. -/
theorem zv_of {fuel : Nat} {x : DataW H × List MemPlace} {cs : List Value} (h : DataW.trod enc Tryf.prog W base sp held fuel 36 cs = some x) {b o : Nat} (hc : ∀ j u, cs[j]? = some u → W.cell? ⟨b, o + j, none⟩ = some u) : ∃ z, RdZ1 W b o z := by
  obtain ⟨xs, n, _, _, hl, hlen, hf⟩ := DataW.trod_struct Tryf.underlying36 h
  have e36 : Tryf.prog.cellsOf 36 = 7 := by kernel_rfl
  have e9 : Tryf.prog.cellsOf 9 = 1 := by kernel_rfl
  have e33 : Tryf.prog.cellsOf 33 = 1 := by kernel_rfl
  have e34 : Tryf.prog.cellsOf 34 = 1 := by kernel_rfl
  have e3 : Tryf.prog.cellsOf 3 = 1 := by kernel_rfl
  rw [e36] at hl
  match cs, hl, xs, hlen with
  | [v0, v1, v2, v3, v4, v5, v6], _, [y0, y1, y2, y3, y4, y5, y6], _ =>
    have f0 : DataW.trod enc Tryf.prog W base sp held n 9 [v0] = some y0 := by
      have h : DataW.trod enc Tryf.prog W base sp held n 9 (([v0, v1, v2, v3, v4, v5, v6].drop 0).take (Tryf.prog.cellsOf 9)) = some y0 := hf 0 { name := "Host", type := 9, offset := 0, embedded := false, tag := "", pkgPath := "", byteOffset := 0 } rfl
      rw [e9] at h
      exact h
    have f1 : DataW.trod enc Tryf.prog W base sp held n 33 [v1] = some y1 := by
      have h : DataW.trod enc Tryf.prog W base sp held n 33 (([v0, v1, v2, v3, v4, v5, v6].drop 1).take (Tryf.prog.cellsOf 33)) = some y1 := hf 1 { name := "ClockHosts", type := 33, offset := 1, embedded := false, tag := "", pkgPath := "", byteOffset := 16 } rfl
      rw [e33] at h
      exact h
    have f2 : DataW.trod enc Tryf.prog W base sp held n 34 [v2] = some y2 := by
      have h : DataW.trod enc Tryf.prog W base sp held n 34 (([v0, v1, v2, v3, v4, v5, v6].drop 2).take (Tryf.prog.cellsOf 34)) = some y2 := hf 2 { name := "ClockCounts", type := 34, offset := 2, embedded := false, tag := "", pkgPath := "", byteOffset := 40 } rfl
      rw [e34] at h
      exact h
    have f3 : DataW.trod enc Tryf.prog W base sp held n 9 [v3] = some y3 := by
      have h : DataW.trod enc Tryf.prog W base sp held n 9 (([v0, v1, v2, v3, v4, v5, v6].drop 3).take (Tryf.prog.cellsOf 9)) = some y3 := hf 3 { name := "Text", type := 9, offset := 3, embedded := false, tag := "", pkgPath := "", byteOffset := 64 } rfl
      rw [e9] at h
      exact h
    have f4 : DataW.trod enc Tryf.prog W base sp held n 3 [v4] = some y4 := by
      have h : DataW.trod enc Tryf.prog W base sp held n 3 (([v0, v1, v2, v3, v4, v5, v6].drop 4).take (Tryf.prog.cellsOf 3)) = some y4 := hf 4 { name := "Line", type := 3, offset := 4, embedded := false, tag := "", pkgPath := "", byteOffset := 80 } rfl
      rw [e3] at h
      exact h
    have f5 : DataW.trod enc Tryf.prog W base sp held n 9 [v5] = some y5 := by
      have h : DataW.trod enc Tryf.prog W base sp held n 9 (([v0, v1, v2, v3, v4, v5, v6].drop 5).take (Tryf.prog.cellsOf 9)) = some y5 := hf 5 { name := "File", type := 9, offset := 5, embedded := false, tag := "", pkgPath := "", byteOffset := 88 } rfl
      rw [e9] at h
      exact h
    have f6 : DataW.trod enc Tryf.prog W base sp held n 9 [v6] = some y6 := by
      have h : DataW.trod enc Tryf.prog W base sp held n 9 (([v0, v1, v2, v3, v4, v5, v6].drop 6).take (Tryf.prog.cellsOf 9)) = some y6 := hf 6 { name := "Execution", type := 9, offset := 6, embedded := false, tag := "", pkgPath := "", byteOffset := 104 } rfl
      rw [e9] at h
      exact h
    obtain ⟨s0, h0, _, l0⟩ := DataW.trod_string Tryf.underlying9 f0
    obtain ⟨q1, n1, c1, Hs, h1, l1, r1, t1⟩ := strs_of f1
    obtain ⟨q2, n2, c2, Cs, h2, l2, r2, t2⟩ := ints_of f2
    obtain ⟨s3, h3, _, l3⟩ := DataW.trod_string Tryf.underlying9 f3
    obtain ⟨i4, h4, _, l4⟩ := DataW.trod_int Tryf.underlying3 f4
    obtain ⟨s5, h5, _, l5⟩ := DataW.trod_string Tryf.underlying9 f5
    obtain ⟨s6, h6, _, l6⟩ := DataW.trod_string Tryf.underlying9 f6
    simp only [List.cons.injEq, and_true] at h0 h3 h4 h5 h6
    subst h0 h1 h2 h3 h4 h5 h6
    have em : maxLen = 9223372036854775807 := rfl
    rw [em] at l0 l1 l2 l3 l5 l6 t1
    exact ⟨⟨s0, q1, n1, c1, Hs, q2, n2, c2, Cs, s3, i4, s5, s6⟩, hc 0 _ rfl, hc 1 _ rfl, hc 2 _ rfl, hc 3 _ rfl, hc 4 _ rfl, hc 5 _ rfl, hc 6 _ rfl, r1, r2, t2, l4, l0, l3, l5, l6, l1, l2, t1⟩

theorem z_of {fuel : Nat} {x : DataW H × List MemPlace} {q : Option Addr} {n c : Nat} (h : DataW.trod enc Tryf.prog W base sp held fuel 22 (Value.slice q n c).cells.toList = some x) : n ≤ 9223372036854775807 ∧ ∃ z, RdZ W q n z := by
  rcases Go.Deep.open_slice (P := Tryf.prog) Tryf.underlying22 h with ⟨hcs, _⟩ | ⟨a, len, cap, m, n', D, Pl, hcs, _, hl, hm, hmm, _, hcell⟩
  · simp [Value.cells] at hcs
    obtain ⟨rfl, rfl, rfl⟩ := hcs
    exact ⟨by omega, fun _ => ⟨⟨#[]⟩, none, 0, 0, fun _ => ⟨#[]⟩, none, 0, 0, fun _ => 0, ⟨#[]⟩, 0, ⟨#[]⟩, ⟨#[]⟩⟩, fun i hi => absurd hi (Nat.not_lt_zero _)⟩
  · simp [Value.cells] at hcs
    obtain ⟨rfl, rfl, rfl⟩ := hcs
    have hlm : n ≤ m := by rw [hmm]; split <;> omega
    have em : maxLen = 9223372036854775807 := rfl
    have e36 : Tryf.prog.cellsOf 36 = 7 := by kernel_rfl
    rw [e36] at hcell
    refine ⟨by omega, ?_⟩
    have each : ∀ i, ∃ zi : Zv, i < n → ∃ b o, some a = some ⟨b, o, none⟩ ∧ RdZ1 W b (o + i * 7) zi := fun i => by
      by_cases hi : i < n
      · obtain ⟨cs', k1, k2⟩ := hcell i (by omega)
        obtain ⟨_, kl, kc⟩ := World.cells?_some k1
        obtain ⟨cs0, k3, k4⟩ := hcell 0 (by omega)
        obtain ⟨_, kl0, kc0⟩ := World.cells?_some k3
        have hs : a.spot = none := by
          match cs0, kl0 with
          | u :: _, _ => exact spot_none (v := u) (by simpa [Addr.add] using kc0 0 (by omega))
        obtain ⟨b, o, s⟩ := a
        simp only at hs
        subst hs
        obtain ⟨zi, hz⟩ := zv_of k2 (b := b) (o := o + i * 7) (fun j u hj => by
          have h7 : j < 7 := by
            rcases Nat.lt_or_ge j 7 with h | h
            · exact h
            · rw [List.getElem?_eq_none (by omega)] at hj; cases hj
          have := kc j h7
          rw [Addr.add_lit, Addr.add_lit] at this
          rw [this, hj])
        exact ⟨zi, fun _ => ⟨b, o, rfl, hz⟩⟩
      · exact ⟨⟨⟨#[]⟩, none, 0, 0, fun _ => ⟨#[]⟩, none, 0, 0, fun _ => 0, ⟨#[]⟩, 0, ⟨#[]⟩, ⟨#[]⟩⟩, fun h => absurd h hi⟩
    exact ⟨fun i => (each i).choose, fun i hi => (each i).choose_spec hi⟩
end
end Go.Proofs.Qxb6613595aFmt
