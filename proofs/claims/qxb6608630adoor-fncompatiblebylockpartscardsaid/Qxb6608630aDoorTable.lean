import Derived.Test.Qxb6608630aDoorRows
import Derived.ProofKit
import Derived.LaidMore
import Derived.OpenShut
import Derived.Stop.Joined
namespace Go.Proofs.Qxb6608630aDoor
open Go.ChangeShapes Go.WideShapes Go.ChangeAt Go.RowKit

theorem own : ownKnob Tryd.prog.godebug = none := by kernel_rfl
theorem gRules : Tryd.prog.globalNamed (Rows.fnCompatibleNextKeyIsKeyAndGapSpec.vars.headD "") = some 0 := by kernel_rfl
theorem tRules : (Tryd.prog.globals[0]?).map (·.type) = some 74 := by kernel_rfl
theorem cells74 : Tryd.prog.cellsOf 74 = 40 := by kernel_rfl
theorem cells73 : Tryd.prog.cellsOf 73 = 4 := by kernel_rfl
theorem cells70 : Tryd.prog.cellsOf 70 = 1 := by kernel_rfl
theorem kids : Kids Tryd.prog (· < Tryd.prog.types.size) := kids_rows (by kernel_rfl) (by kernel_rfl)
theorem full : ∀ t e, t < Tryd.prog.types.size → Tryd.prog.underlying t = some (.slice e) → 0 < Tryd.prog.cellsOf e := slices_full_of Tryd.prog (by kernel_rfl)

theorem row_cell {H : Type} {enc : TypeId × Value → H} {W : World} {sp : Nat → Bool} {hd : Bool} {fuel : Nat} {cs : List Value} {ds : List (DataW H)} {p : List MemPlace}
    (h : DataW.trod enc Tryd.prog W 0 sp hd fuel 74 cs = some (.agg ds, p)) (i : Nat) (hi : i < 10) (a b c : DataW H) (v : Int)
    (e : ds[i]? = some (.agg [a, .lit (.int .u16 v), b, c])) : cs[i * 4 + 1]? = some (.int .u16 v) := by
  obtain ⟨xs, m, rfl, hx, hlen, hn, hel⟩ := DataW.trod_array Tryd.underlying74 h
  have h1 := hel i hi
  simp only [Prod.mk.injEq, DataW.agg.injEq] at hx
  rw [hx.1, List.getElem?_map] at e
  obtain ⟨y, hy, ey⟩ := Option.map_eq_some_iff.1 e
  rw [hy, cells73] at h1
  obtain ⟨ys, n, rfl, hy2, _, hn2, hel2⟩ := DataW.trod_struct Tryd.underlying73 h1
  have h2 := hel2 1 _ rfl
  rw [hy2] at ey
  simp only [DataW.agg.injEq] at ey
  have e1 : (ys.map (·.1))[1]? = some (.lit (.int .u16 v)) := by rw [ey]; rfl
  rw [List.getElem?_map] at e1
  obtain ⟨z, hz, ez⟩ := Option.map_eq_some_iff.1 e1
  rw [hz] at h2
  obtain ⟨k, ek, e2, _⟩ := DataW.trod_int Tryd.underlying70 h2
  rw [e2] at ez
  have hk : k = v := by simpa using ez
  subst hk
  have := congrArg (fun l => l[0]?) ek
  simpa [cells70, List.getElem?_take, List.getElem?_drop] using this

/-- The one variable that both laws name, as the program's text lays it. -/
def laid1 : List (String × DataW Unit) := Rows.fnCompatibleNextKeyIsKeyAndGapRow.laid

/-- The door's own heap meets the condition. -/
theorem door_met (os : Os) (args : Array Value) : laidMetH Tryd.prog laid1 ((World.doorLaid Tryd.prog 2345 os).forCall (fun _ _ => 0) ⟨#[], args, []⟩).memory :=
  laidMetH_of_parts3 (fuel := 8) (laidMet_of_run' 8 (by kernel_rfl) (by kernel_rfl)) (by kernel_rfl) (by kernel_rfl)

theorem of_laid {W : World} (h : laidMetH Tryd.prog laid1 W) :
    ∀ (i : Nat), i < 10 → ∀ (a b c : DataW Unit) (v : Int), (match (Rows.laid_example_com_latchwork_latchwork_modeRules : DataW Unit) with | .agg ds => ds[i]? | _ => none) = some (.agg [a, .lit (.int .u16 v), b, c]) → W.cell? ⟨0, i * 4 + 1, none⟩ = some (.int .u16 v) := by
  rw [MakeChecks.laidMetH_plain _ _ _ (by kernel_rfl)] at h
  obtain ⟨ps, ⟨g0, t0, cs0, f0, p0, q0, hg0, ht0, hv0, hd0, _, _⟩, _, _⟩ := h
  obtain rfl := Option.some.inj (gRules.symm.trans hg0)
  obtain rfl := Option.some.inj (tRules.symm.trans ht0)
  intro i hi a b c v e
  have := row_cell hd0 i hi a b c v e
  rw [World.var?_cell hg0 hv0, ← this]
  simp
end Go.Proofs.Qxb6608630aDoor
