/-
  No cell of these rows narrows 'for every input' (looked for: loops, veiled, ifaces, maps, wideKeys, modest, calm, conditions, laid).
  DERIVED. THE GIVEN ROWS OF THIS SEAT. 4 by the template 'for every input the law returns true; each argument reads behind the call as it read before'; 0 by the template 'total and deterministic' (their statements: Qxb6608761aTotals.lean).
  GIVEN WITH THE SEED: the statements are not yours to turn. If you find one false, say at which input.
  Laid BY PROGRAM, IN A SANDBOX (cutbox-rows.mjs): the forced cells as the released guide's own fill.sh prints them over the translation 43ac594efb3ae5c3… (all of the seat's roots in one cut). By AI agents, Wed Nov 11 2026. No macro, syntax, notation, axiom, sorry.
-/
import Derived.Test.Qxb6608761aChecked
import GoSem.Claim
import GoSem.ClaimJoined
import GoSem.ClaimMapViews
import Derived.JoinedTies
import Derived.KernelRfl
namespace Go.Proofs.Qxb6608761a
/- THE CELL 'sum', in the pinned program and in every row, IS THE sha256 OF THE DUMP (.gsa) THAT Qxb6608761aProg.lean LOADS. Nothing in Lean hashes anything: it is a label: what it is worth is what the hold of that sum in a sandbox is worth. -/
noncomputable def Try.pinned : Pinned := { name := "qxb6608761a", sum := "43ac594efb3ae5c3842563149254b83f8e7327b53460688f6c5600d11df69167", checked := Try.checked }
namespace Rows
def none {H : Type} : Left H := { results := [], args := [] }

/-- 'zzlaws_internal_wire_b1.FnOpenRunsEndDrainsTheDeeperRuns': WHATEVER THE INPUT: true; the input reads as it did. -/
def fnOpenRunsEndDrainsTheDeeperRunsSpec : ChangeSpec := { name := "fnOpenRunsEndDrainsTheDeeperRuns", fn := fun _ => fun
  | [d1, d2] => { results := [.lit (.bool true)], args := [d1, d2] }
  | _ => none }
def fnOpenRunsEndDrainsTheDeeperRunsRow : OpenClaim := { program := "qxb6608761a", sum := "43ac594efb3ae5c3842563149254b83f8e7327b53460688f6c5600d11df69167", func := "example.com/weft/zzlaws_internal_wire_b1.FnOpenRunsEndDrainsTheDeeperRuns", spec := "fnOpenRunsEndDrainsTheDeeperRuns", apart := false }
def FnOpenRunsEndDrainsTheDeeperRunsSaid : Prop := fnOpenRunsEndDrainsTheDeeperRunsRow.holds Try.pinned (OpenSpec.ofChange fnOpenRunsEndDrainsTheDeeperRunsSpec)

/-- ITS FALSE NEIGHBOUR: 'it returns false'. Refute it at one input. -/
def fnOpenRunsEndDrainsTheDeeperRunsWrong : ChangeSpec := { name := "fnOpenRunsEndDrainsTheDeeperRuns", fn := fun _ => fun
  | [d1, d2] => { results := [.lit (.bool false)], args := [d1, d2] }
  | _ => none }
def FnOpenRunsEndDrainsTheDeeperRunsWrongFalsely : Prop := fnOpenRunsEndDrainsTheDeeperRunsRow.holds Try.pinned (OpenSpec.ofChange fnOpenRunsEndDrainsTheDeeperRunsWrong)

/-- 'zzlaws_internal_wire_b1.FnOpenRunsEndInTwoStepsIsOneStep': WHATEVER THE INPUT: true; the input reads as it did. -/
def fnOpenRunsEndInTwoStepsIsOneStepSpec : ChangeSpec := { name := "fnOpenRunsEndInTwoStepsIsOneStep", fn := fun _ => fun
  | [d1, d2, d3] => { results := [.lit (.bool true)], args := [d1, d2, d3] }
  | _ => none }
def fnOpenRunsEndInTwoStepsIsOneStepRow : OpenClaim := { program := "qxb6608761a", sum := "43ac594efb3ae5c3842563149254b83f8e7327b53460688f6c5600d11df69167", func := "example.com/weft/zzlaws_internal_wire_b1.FnOpenRunsEndInTwoStepsIsOneStep", spec := "fnOpenRunsEndInTwoStepsIsOneStep", apart := false }
def FnOpenRunsEndInTwoStepsIsOneStepSaid : Prop := fnOpenRunsEndInTwoStepsIsOneStepRow.holds Try.pinned (OpenSpec.ofChange fnOpenRunsEndInTwoStepsIsOneStepSpec)

/-- ITS FALSE NEIGHBOUR: 'it returns false'. Refute it at one input. -/
def fnOpenRunsEndInTwoStepsIsOneStepWrong : ChangeSpec := { name := "fnOpenRunsEndInTwoStepsIsOneStep", fn := fun _ => fun
  | [d1, d2, d3] => { results := [.lit (.bool false)], args := [d1, d2, d3] }
  | _ => none }
def FnOpenRunsEndInTwoStepsIsOneStepWrongFalsely : Prop := fnOpenRunsEndInTwoStepsIsOneStepRow.holds Try.pinned (OpenSpec.ofChange fnOpenRunsEndInTwoStepsIsOneStepWrong)

/-- 'zzlaws_internal_wire_b1.FnEndMapSortsAFlatMapInPlace': WHATEVER THE INPUT: true; the input reads as it did. -/
def fnEndMapSortsAFlatMapInPlaceSpec : ChangeSpec := { name := "fnEndMapSortsAFlatMapInPlace", fn := fun _ => fun
  | [d1, d2, d3] => { results := [.lit (.bool true)], args := [d1, d2, d3] }
  | _ => none }
def fnEndMapSortsAFlatMapInPlaceRow : OpenClaim := { program := "qxb6608761a", sum := "43ac594efb3ae5c3842563149254b83f8e7327b53460688f6c5600d11df69167", func := "example.com/weft/zzlaws_internal_wire_b1.FnEndMapSortsAFlatMapInPlace", spec := "fnEndMapSortsAFlatMapInPlace", inPlace := ["internal/bytealg.Compare"], unfollowed := true, recurses := true, named := ["encoding/binary.BigEndian"], apart := false }
def FnEndMapSortsAFlatMapInPlaceSaid : Prop := fnEndMapSortsAFlatMapInPlaceRow.holds Try.pinned (OpenSpec.ofChange fnEndMapSortsAFlatMapInPlaceSpec)

/-- ITS FALSE NEIGHBOUR: 'it returns false'. Refute it at one input. -/
def fnEndMapSortsAFlatMapInPlaceWrong : ChangeSpec := { name := "fnEndMapSortsAFlatMapInPlace", fn := fun _ => fun
  | [d1, d2, d3] => { results := [.lit (.bool false)], args := [d1, d2, d3] }
  | _ => none }
def FnEndMapSortsAFlatMapInPlaceWrongFalsely : Prop := fnEndMapSortsAFlatMapInPlaceRow.holds Try.pinned (OpenSpec.ofChange fnEndMapSortsAFlatMapInPlaceWrong)

/-- 'zzlaws_internal_wire_b1.FnEndMapLeavesAMapThatHoldsASortedMapWhereItIs': WHATEVER THE INPUT: true; the input reads as it did. -/
def fnEndMapLeavesAMapThatHoldsASortedMapWhereItIsSpec : ChangeSpec := { name := "fnEndMapLeavesAMapThatHoldsASortedMapWhereItIs", fn := fun _ => fun
  | [d1, d2, d3, d4, d5] => { results := [.lit (.bool true)], args := [d1, d2, d3, d4, d5] }
  | _ => none }
def fnEndMapLeavesAMapThatHoldsASortedMapWhereItIsRow : OpenClaim := { program := "qxb6608761a", sum := "43ac594efb3ae5c3842563149254b83f8e7327b53460688f6c5600d11df69167", func := "example.com/weft/zzlaws_internal_wire_b1.FnEndMapLeavesAMapThatHoldsASortedMapWhereItIs", spec := "fnEndMapLeavesAMapThatHoldsASortedMapWhereItIs", inPlace := ["internal/bytealg.Compare"], unfollowed := true, recurses := true, named := ["encoding/binary.BigEndian"], apart := false }
def FnEndMapLeavesAMapThatHoldsASortedMapWhereItIsSaid : Prop := fnEndMapLeavesAMapThatHoldsASortedMapWhereItIsRow.holds Try.pinned (OpenSpec.ofChange fnEndMapLeavesAMapThatHoldsASortedMapWhereItIsSpec)

/-- ITS FALSE NEIGHBOUR: 'it returns false'. Refute it at one input. -/
def fnEndMapLeavesAMapThatHoldsASortedMapWhereItIsWrong : ChangeSpec := { name := "fnEndMapLeavesAMapThatHoldsASortedMapWhereItIs", fn := fun _ => fun
  | [d1, d2, d3, d4, d5] => { results := [.lit (.bool false)], args := [d1, d2, d3, d4, d5] }
  | _ => none }
def FnEndMapLeavesAMapThatHoldsASortedMapWhereItIsWrongFalsely : Prop := fnEndMapLeavesAMapThatHoldsASortedMapWhereItIsRow.holds Try.pinned (OpenSpec.ofChange fnEndMapLeavesAMapThatHoldsASortedMapWhereItIsWrong)

end Rows
end Go.Proofs.Qxb6608761a
