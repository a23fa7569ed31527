/-
  No cell of these rows narrows 'for every input' (looked for: loops, veiled, ifaces, maps, wideKeys, modest, calm, conditions, laid).
  DERIVED. THE GIVEN ROWS OF THIS SEAT. 1 by the template 'for every input the law returns true; each argument reads behind the call as it read before'; 0 by the template 'total and deterministic' (their statements: Qxb6613595aFmtTotals.lean).
  GIVEN WITH THE SEED: the statements are not yours to turn. If you find one false, say at which input.
  Laid BY PROGRAM, IN A SANDBOX (cutbox-rows.mjs): the forced cells as the released guide's own fill.sh prints them over the translation 40a2fd1dff5748d2… (all of the seat's roots in one cut). By AI agents, Wed Nov 11 2026. No macro, syntax, notation, axiom, sorry.
-/
import Derived.Test.Qxb6613595aFmtChecked
import GoSem.Claim
import GoSem.ClaimJoined
import GoSem.ClaimMapViews
import Derived.JoinedTies
import Derived.KernelRfl
namespace Go.Proofs.Qxb6613595aFmt
/- THE CELL 'sum', in the pinned program and in every row, IS THE sha256 OF THE DUMP (.gsa) THAT Qxb6613595aFmtProg.lean LOADS. Nothing in Lean hashes anything: it is a label: what it is worth is what the hold of that sum in a sandbox is worth. -/
noncomputable def Tryf.pinned : Pinned := { name := "qxb6613595afmt", sum := "40a2fd1dff5748d2fddec46a7e62163ff517a8a1dc3647b8003c3dccacbe85a2", checked := Tryf.checked }
namespace Rows
def none {H : Type} : Left H := { results := [], args := [] }

/-- 'zzlaws_root_b1.FnOrderRefusesRepeatedEvent': WHATEVER THE INPUT: true; the input reads as it did. -/
def fnOrderRefusesRepeatedEventSpec : ChangeSpec := { name := "fnOrderRefusesRepeatedEvent", fn := fun _ => fun
  | [d1, d2, d3] => { results := [.lit (.bool true)], args := [d1, d2, d3] }
  | _ => none }
def fnOrderRefusesRepeatedEventRow : OpenClaim := { program := "qxb6613595afmt", sum := "40a2fd1dff5748d2fddec46a7e62163ff517a8a1dc3647b8003c3dccacbe85a2", func := "example.com/antecede/antecede/zzlaws_root_b1.FnOrderRefusesRepeatedEvent", spec := "fnOrderRefusesRepeatedEvent", stops := ["fmt.Sprintf"], inPlace := ["internal/bytealg.abigen_runtime_cmpstring", "math/bits.Add64", "fmt.Sprintf"], unfollowed := true, recurses := true, plainKeys := false, apart := false }
/-- NO THEOREM (fmt's text is open here; it may be false): for the released tool's asking of the row's closed facts alone. THE STATEMENT IS 'FnOrderRefusesRepeatedEventToldSaid' (Qxb6613595aFmtCards.lean). -/
def FnOrderRefusesRepeatedEventFormAsk : Prop := fnOrderRefusesRepeatedEventRow.holds Tryf.pinned (OpenSpec.ofChange fnOrderRefusesRepeatedEventSpec)

/-- ITS FALSE NEIGHBOUR: 'it returns false'. Refute it at one input. -/
def fnOrderRefusesRepeatedEventWrong : ChangeSpec := { name := "fnOrderRefusesRepeatedEvent", fn := fun _ => fun
  | [d1, d2, d3] => { results := [.lit (.bool false)], args := [d1, d2, d3] }
  | _ => none }
def FnOrderRefusesRepeatedEventWrongFormAsk : Prop := fnOrderRefusesRepeatedEventRow.holds Tryf.pinned (OpenSpec.ofChange fnOrderRefusesRepeatedEventWrong)

end Rows
end Go.Proofs.Qxb6613595aFmt
