/-
  Rows.FnEndMapLeavesAMapThatHoldsASortedMapWhereItIsSaid: the frame after the guide's shell; the walks are Qxb6608761aEm*.lean's.
-/
import Derived.Test.Qxb6608761aRows
import Derived.Test.Qxb6608761aEmLaw
import Derived.WalkKit
import Derived.ProofKit
import Derived.OpenShut
import Derived.ShutString
import Derived.ChangeOld
import Derived.Below
import Derived.Deep.SlicePairs
namespace Go.Proofs.Qxb6608761a.fnEndMapLeaves
open Go.ChangeShapes Go.WideShapes Go.ChangeAt Go.RowKit
set_option linter.unusedVariables false

theorem own : ownKnob Try.prog.godebug = none := by kernel_rfl
theorem laidOut : laidOutB Try.prog = true := by kernel_rfl

theorem spot_none {w : World} {a : Addr} {v : Value} (h : w.cell? a = some v) : a.spot = none := by
  unfold World.cell? at h
  split at h
  · split at h
    · cases h
    · next hs => cases hsp : a.spot with
      | none => rfl
      | some x => rw [hsp] at hs; simp at hs
  · cases h

/-- What the walk is told of the bytes. -/
def IsBytes (w : World) (a : Option Addr) (len : Nat) : Prop := ∃ f : Nat → Nat, (∀ i, i < len → f i < 256) ∧ Rd w a len f ∧ (a = none → len = 0)
/-- What the walk is told of a slice of spans. -/
def IsSpans (w : World) (a : Option Addr) (len : Nat) : Prop := ∃ Z : Nat → Int × Int, 0 < len → ∃ b o, a = some ⟨b, o, none⟩ ∧ RdZ w b o len Z

theorem walk (a0 a1 a2 : Option Addr) (len0 cap0 len1 cap1 len2 cap2 : Nat) (a3 a4 : Int) (w : World) (h0 : IsBytes w a0 len0) (h1 : IsSpans w a1 len1) (h2 : IsSpans w a2 len2) :
    Calls Try.prog 6 #[.slice a0 len0 cap0, .slice a1 len1 cap1, .slice a2 len2 cap2, .int .i64 a3, .int .i64 a4] w fun e w' => e = .returned (.bool true) ∧ Below w.heap.size w w' := by
  obtain ⟨f, hf, hr, hn⟩ := h0
  obtain ⟨Zo, ho⟩ := h1
  obtain ⟨Zi, hi⟩ := h2
  exact law_any a0 a1 a2 len0 cap0 len1 cap1 len2 cap2 f Zo Zi a3 a4 w hf hr hn ho hi

theorem spans_of {H : Type} {enc : TypeId × Value → H} {W : World} {base : Nat} {sp : Nat → Bool} {held : Bool} {fuel : Nat} {a : Option Addr} {len cap : Nat} {x : DataW H × List MemPlace}
    (hf : DataW.trod enc Try.prog W base sp held fuel 39 (Value.slice a len cap).cells.toList = some x) : IsSpans W a len := by
  rcases Go.Deep.open_slice_pairs (P := Try.prog) Try.underlying39 Try.underlying47 (by kernel_rfl) rfl rfl (by kernel_rfl) (by kernel_rfl) hf with ⟨hcs, _⟩ | ⟨y, l, c, m, n, V0, V1, D0, D1, P0, P1, hcs, _, hl, hm, hmm, _, hcell⟩
  · simp [Value.cells] at hcs
    obtain ⟨rfl, rfl, rfl⟩ := hcs
    exact ⟨fun _ => (0, 0), fun h => by omega⟩
  · simp [Value.cells] at hcs
    obtain ⟨rfl, rfl, rfl⟩ := hcs
    have hlm : len ≤ m := by rw [hmm]; split <;> omega
    have each : ∀ i, ∃ z : Int × Int, i < m → W.cell? (y.add (i * 2)) = some (.int .i64 z.1) ∧ W.cell? (y.add (i * 2 + 1)) = some (.int .i64 z.2) := fun i => by
      by_cases hi : i < m
      · obtain ⟨c0, c1, t0, t1⟩ := hcell i hi
        obtain ⟨z0, e0, _⟩ := DataW.trod_int (k := .i64) Try.underlying3 t0
        obtain ⟨z1, e1, _⟩ := DataW.trod_int (k := .i64) Try.underlying3 t1
        simp only [List.cons.injEq, and_true] at e0 e1
        exact ⟨(z0, z1), fun _ => ⟨by rw [c0, e0], by rw [c1, e1]⟩⟩
      · exact ⟨(0, 0), fun h => absurd h hi⟩
    obtain ⟨Z, hZ⟩ : ∃ Z : Nat → Int × Int, ∀ i, i < m → W.cell? (y.add (i * 2)) = some (.int .i64 (Z i).1) ∧ W.cell? (y.add (i * 2 + 1)) = some (.int .i64 (Z i).2) := ⟨fun i => (each i).choose, fun i => (each i).choose_spec⟩
    clear each hcell
    refine ⟨Z, fun h0 => ?_⟩
    have e0 := (hZ 0 (by omega)).1
    have hs : y.spot = none := spot_none (a := y) (by simpa [Addr.add] using e0)
    obtain ⟨b, o, s⟩ := y
    simp only at hs
    subst hs
    refine ⟨b, o, rfl, fun i hi => ?_⟩
    have h := hZ i (by omega)
    rw [Addr.add_lit, Addr.add_lit] at h
    exact ⟨h.1, by rw [Nat.add_assoc]; exact h.2⟩

theorem bytes_of {H : Type} {enc : TypeId × Value → H} {W : World} {base : Nat} {sp : Nat → Bool} {held : Bool} {fuel : Nat} {a : Option Addr} {len cap : Nat} {x : DataW H × List MemPlace}
    (hf : DataW.trod enc Try.prog W base sp held fuel 38 (Value.slice a len cap).cells.toList = some x) : IsBytes W a len := by
  rcases open_ints (P := Try.prog) Try.underlying38 Try.underlying5 (by kernel_rfl) hf with ⟨hcs, _⟩ | ⟨y, l, c, zs, hcs, _, hl, hm, hz, _, hcell, hwz⟩
  · simp [Value.cells] at hcs
    obtain ⟨rfl, rfl, rfl⟩ := hcs
    exact ⟨fun _ => 0, fun i hi => by omega, fun i hi => by omega, fun _ => rfl⟩
  · simp [Value.cells] at hcs
    obtain ⟨rfl, rfl, rfl⟩ := hcs
    have hlz : len ≤ zs.length := by rw [hz]; split <;> omega
    have hb : ∀ i, i < len → 0 ≤ zs.getD i 0 ∧ zs.getD i 0 < 256 := fun i hi => by
      have hw := hwz (zs.getD i 0) (by rw [List.getD_eq_getElem?_getD, List.getElem?_eq_getElem (by omega)]; exact List.getElem_mem _)
      simp only [Lit.wf, Bool.and_eq_true, decide_eq_true_eq] at hw
      have e1 : IntKind.u8.min = 0 := rfl
      have e2 : IntKind.u8.max = 255 := rfl
      rw [e1, e2] at hw
      omega
    refine ⟨fun i => (zs.getD i 0).toNat, fun i hi => by have := hb i hi; simp only; omega, fun i hi => ⟨y, rfl, ?_⟩, fun h => by cases h⟩
    rw [hcell i (by omega)]
    have := hb i hi
    simp only
    rw [show (((zs.getD i 0).toNat : Nat) : Int) = zs.getD i 0 by omega]

/-! ### The row's step -/
set_option maxRecDepth 100000 in
theorem lifted (os : Os) (started : os.Started) (H : Type) (enc : TypeId × Value → H) :
    ReturnsInHanded {} Try.checked os 6 .any (Rows.fnEndMapLeavesAMapThatHoldsASortedMapWhereItIsSpec.pre6 enc Try.prog Try.f6 Rows.fnEndMapLeavesAMapThatHoldsASortedMapWhereItIsRow.domain false) (Rows.fnEndMapLeavesAMapThatHoldsASortedMapWhereItIsSpec.post enc Try.prog Try.f6 false true false false) := by
  refine returnsInHanded_of_change (C := Try.checked) own started (by kernel_rfl) Try.func6
    (ChangeSpec.witness6 (enc := enc) (C := Try.checked) false ⟨#[], #[.slice none 0 0, .slice none 0 0, .slice none 0 0, .int .i64 0, .int .i64 0], []⟩ 8 (by kernel_rfl) (by kernel_rfl) (by kernel_rfl) (by kernel_rfl)) ?_
  intro W base args ds gs before hval0 hW hcnd _
  have hval : ∀ (j : Nat) t v, Try.f6.params[j]? = some t → args[j]? = some v → Value.okWide Try.prog W .any base t v := hval0
  have hW' := hW
  obtain ⟨p, q, hA0, hV, rfl, hfz, hnd⟩ := hW
  have hA : DataW.TrodAll enc Try.prog W 0 (fun _ => true) true Try.f6.params.toList args.toList ds p := hA0
  rw [Try.params6] at hA hval
  obtain ⟨v0, vs0, d0, ds0, p0, q0, hargs, rfl, rfl, h0, r0⟩ := trodAll_cons hA
  obtain ⟨v1, vs1, d1, ds1, p1, q1, rfl, rfl, rfl, h1, r1⟩ := trodAll_cons r0
  obtain ⟨v2, vs2, d2, ds2, p2, q2, rfl, rfl, rfl, h2, r2⟩ := trodAll_cons r1
  obtain ⟨v3, vs3, d3, ds3, p3, q3, rfl, rfl, rfl, h3, r3⟩ := trodAll_cons r2
  obtain ⟨v4, vs4, d4, ds4, p4, q4, rfl, rfl, rfl, h4, r4⟩ := trodAll_cons r3
  obtain ⟨rfl, rfl, rfl⟩ := trodAll_nil r4
  obtain rfl : args = #[v0, v1, v2, v3, v4] := by cases args; simp_all
  obtain ⟨rfl, rfl⟩ := trodVars_none hV
  obtain ⟨a0, len0, cap0, rfl⟩ := okWide_slice Try.underlying38 (hval 0 38 v0 rfl rfl)
  obtain ⟨a1, len1, cap1, rfl⟩ := okWide_slice Try.underlying39 (hval 1 39 v1 rfl rfl)
  obtain ⟨a2, len2, cap2, rfl⟩ := okWide_slice Try.underlying39 (hval 2 39 v2 rfl rfl)
  obtain ⟨a3, rfl, rfl, rfl, w3⟩ := open_int Try.underlying3 (hval 3 3 v3 rfl rfl) h3
  obtain ⟨a4, rfl, rfl, rfl, w4⟩ := open_int Try.underlying3 (hval 4 3 v4 rfl rfl) h4
  have k0 := h0
  have k1 := h1
  have k2 := h2
  have lt0 : ∀ x ∈ p0, x.block < W.heap.size := by obtain ⟨m, hm⟩ := k0; exact DataW.trod_lt m _ _ _ hm
  have lt1 : ∀ x ∈ p1, x.block < W.heap.size := by obtain ⟨m, hm⟩ := k1; exact DataW.trod_lt m _ _ _ hm
  have lt2 : ∀ x ∈ p2, x.block < W.heap.size := by obtain ⟨m, hm⟩ := k2; exact DataW.trod_lt m _ _ _ hm
  have w0 : IsBytes W a0 len0 := by obtain ⟨fuel, hf⟩ := h0; exact bytes_of hf
  have w1 : IsSpans W a1 len1 := by obtain ⟨fuel, hf⟩ := h1; exact spans_of hf
  have w2 : IsSpans W a2 len2 := by obtain ⟨fuel, hf⟩ := h2; exact spans_of hf
  clear hA0 hval0
  refine (walk a0 a1 a2 len0 cap0 len1 cap1 len2 cap2 a3 a4 W w0 w1 w2).mono fun e W' ⟨he, bel⟩ => ?_
  subst he
  exact ⟨_, rfl, _, _, _, [], _, [], hW', trodAll_mk1 (shut_bool Try.underlying4 _), (trodAll_cons_mk (Below.trod laidOut (by kernel_rfl) (of_decide_eq_true (by kernel_rfl)) k0 bel lt0) (trodAll_cons_mk (Below.trod laidOut (by kernel_rfl) (of_decide_eq_true (by kernel_rfl)) k1 bel lt1) (trodAll_cons_mk (Below.trod laidOut (by kernel_rfl) (of_decide_eq_true (by kernel_rfl)) k2 bel lt2) (trodAll_cons_mk (shut_int Try.underlying3 w3) (trodAll_cons_mk (shut_int Try.underlying3 w4) trodAll_mk0))))), rfl, bel.frame _, fun h => by cases h⟩

theorem over : Rows.fnEndMapLeavesAMapThatHoldsASortedMapWhereItIsRow.holds Try.pinned (OpenSpec.ofChange Rows.fnEndMapLeavesAMapThatHoldsASortedMapWhereItIsSpec) :=
  OpenClaim.holds_of_wide 6 Try.f6 rfl rfl rfl rfl rfl rfl rfl ⟨rfl, rfl, rfl, rfl, rfl⟩ rfl rfl rfl rfl rfl (by kernel_rfl) Try.func6 (by kernel_rfl)
    (of_decide_eq_true (by kernel_rfl)) (by unfold Func.isWrapper; first | (rw [if_pos (by decide +kernel)]; kernel_rfl) | (rw [if_neg (by decide +kernel)]; exact ⟨rfl, rfl⟩))
    (fun os started H enc _ => lifted os started H enc)

/-- THE STATEMENT -/
theorem proved : Rows.FnEndMapLeavesAMapThatHoldsASortedMapWhereItIsSaid := over
end Go.Proofs.Qxb6608761a.fnEndMapLeaves
namespace Go.Proofs.Qxb6608761a
theorem fnEndMapLeavesAMapThatHoldsASortedMapWhereItIs_proved : Rows.FnEndMapLeavesAMapThatHoldsASortedMapWhereItIsSaid := fnEndMapLeaves.proved
end Go.Proofs.Qxb6608761a
