/-
  No cell of these rows narrows 'for every input' (looked for: loops, veiled, ifaces, maps, wideKeys, modest, calm, conditions, laid).
  DERIVED. THE GIVEN ROWS OF THIS SEAT. 4 by the template 'for every input the law returns true; each argument reads behind the call as it read before'; 0 by the template 'total and deterministic' (their statements: Qxb6613595aTotals.lean).
  GIVEN WITH THE SEED: the statements are not yours to turn. If you find one false, say at which input.
  Laid BY PROGRAM, IN A SANDBOX (cutbox-rows.mjs): the forced cells as the released guide's own fill.sh prints them over the translation ea90d9848c93d5c4… (all of the seat's roots in one cut). By AI agents, Wed Nov 11 2026. No macro, syntax, notation, axiom, sorry.
-/
import Derived.Test.Qxb6613595aChecked
import GoSem.Claim
import GoSem.ClaimJoined
import GoSem.ClaimMapViews
import Derived.JoinedTies
import Derived.KernelRfl
namespace Go.Proofs.Qxb6613595a
/- THE CELL 'sum', in the pinned program and in every row, IS THE sha256 OF THE DUMP (.gsa) THAT Qxb6613595aProg.lean LOADS. Nothing in Lean hashes anything: it is a label: what it is worth is what the hold of that sum in a sandbox is worth. -/
noncomputable def Try.pinned : Pinned := { name := "qxb6613595a", sum := "ea90d9848c93d5c4c07db61f80d117af80fe2d14a8c0770004a950ec2c9cfce8", checked := Try.checked }
namespace Rows
def none {H : Type} : Left H := { results := [], args := [] }

/-- 'zzlaws_root_b1.FnMillisecondsWholeAndOdd': WHATEVER THE INPUT: true; the input reads as it did. -/
def fnMillisecondsWholeAndOddSpec : ChangeSpec := { name := "fnMillisecondsWholeAndOdd", fn := fun _ => fun
  | [d] => { results := [.lit (.bool true)], args := [d] }
  | _ => none }
def fnMillisecondsWholeAndOddRow : OpenClaim := { program := "qxb6613595a", sum := "ea90d9848c93d5c4c07db61f80d117af80fe2d14a8c0770004a950ec2c9cfce8", func := "example.com/antecede/antecede/zzlaws_root_b1.FnMillisecondsWholeAndOdd", spec := "fnMillisecondsWholeAndOdd", apart := false }
def FnMillisecondsWholeAndOddSaid : Prop := fnMillisecondsWholeAndOddRow.holds Try.pinned (OpenSpec.ofChange fnMillisecondsWholeAndOddSpec)

/-- ITS FALSE NEIGHBOUR: 'it returns false'. Refute it at one input. -/
def fnMillisecondsWholeAndOddWrong : ChangeSpec := { name := "fnMillisecondsWholeAndOdd", fn := fun _ => fun
  | [d] => { results := [.lit (.bool false)], args := [d] }
  | _ => none }
def FnMillisecondsWholeAndOddWrongFalsely : Prop := fnMillisecondsWholeAndOddRow.holds Try.pinned (OpenSpec.ofChange fnMillisecondsWholeAndOddWrong)

/-- 'zzlaws_root_b1.FnMillisecondsMonotoneSigned': WHATEVER THE INPUT: true; the input reads as it did. -/
def fnMillisecondsMonotoneSignedSpec : ChangeSpec := { name := "fnMillisecondsMonotoneSigned", fn := fun _ => fun
  | [d1, d2] => { results := [.lit (.bool true)], args := [d1, d2] }
  | _ => none }
def fnMillisecondsMonotoneSignedRow : OpenClaim := { program := "qxb6613595a", sum := "ea90d9848c93d5c4c07db61f80d117af80fe2d14a8c0770004a950ec2c9cfce8", func := "example.com/antecede/antecede/zzlaws_root_b1.FnMillisecondsMonotoneSigned", spec := "fnMillisecondsMonotoneSigned", apart := false }
def FnMillisecondsMonotoneSignedSaid : Prop := fnMillisecondsMonotoneSignedRow.holds Try.pinned (OpenSpec.ofChange fnMillisecondsMonotoneSignedSpec)

/-- ITS FALSE NEIGHBOUR: 'it returns false'. Refute it at one input. -/
def fnMillisecondsMonotoneSignedWrong : ChangeSpec := { name := "fnMillisecondsMonotoneSigned", fn := fun _ => fun
  | [d1, d2] => { results := [.lit (.bool false)], args := [d1, d2] }
  | _ => none }
def FnMillisecondsMonotoneSignedWrongFalsely : Prop := fnMillisecondsMonotoneSignedRow.holds Try.pinned (OpenSpec.ofChange fnMillisecondsMonotoneSignedWrong)

/-- 'zzlaws_root_b1.FnObserveTwiceSteady': WHATEVER THE INPUT: true; the input reads as it did. -/
def fnObserveTwiceSteadySpec : ChangeSpec := { name := "fnObserveTwiceSteady", fn := fun _ => fun
  | [d1, d2, d3, d4, d5, d6, d7, d8] => { results := [.lit (.bool true)], args := [d1, d2, d3, d4, d5, d6, d7, d8] }
  | _ => none }
def fnObserveTwiceSteadyRow : OpenClaim := { program := "qxb6613595a", sum := "ea90d9848c93d5c4c07db61f80d117af80fe2d14a8c0770004a950ec2c9cfce8", func := "example.com/antecede/antecede/zzlaws_root_b1.FnObserveTwiceSteady", spec := "fnObserveTwiceSteady", inPlace := ["(*internal/sync.Mutex).Lock", "internal/race.Disable", "sync/atomic.CompareAndSwapInt32", "internal/race.Enable", "internal/race.Acquire", "(*internal/sync.Mutex).lockSlow", "internal/sync.runtime_canSpin", "internal/sync.runtime_doSpin", "internal/sync.throw", "internal/sync.runtime_nanotime", "internal/sync.runtime_SemacquireMutex", "sync/atomic.AddInt32", "(*internal/sync.Mutex).Unlock", "internal/race.ReleaseMerge", "(*internal/sync.Mutex).unlockSlow", "internal/sync.fatal", "internal/sync.runtime_Semrelease"], unfollowed := true, recurses := true, apart := false }
def FnObserveTwiceSteadySaid : Prop := fnObserveTwiceSteadyRow.holds Try.pinned (OpenSpec.ofChange fnObserveTwiceSteadySpec)

/-- ITS FALSE NEIGHBOUR: 'it returns false'. Refute it at one input. -/
def fnObserveTwiceSteadyWrong : ChangeSpec := { name := "fnObserveTwiceSteady", fn := fun _ => fun
  | [d1, d2, d3, d4, d5, d6, d7, d8] => { results := [.lit (.bool false)], args := [d1, d2, d3, d4, d5, d6, d7, d8] }
  | _ => none }
def FnObserveTwiceSteadyWrongFalsely : Prop := fnObserveTwiceSteadyRow.holds Try.pinned (OpenSpec.ofChange fnObserveTwiceSteadyWrong)

/-- 'zzlaws_root_b1.FnObserveShiftInvariant': WHATEVER THE INPUT: true; the input reads as it did. -/
def fnObserveShiftInvariantSpec : ChangeSpec := { name := "fnObserveShiftInvariant", fn := fun _ => fun
  | [d1, d2, d3, d4, d5, d6, d7, d8, d9] => { results := [.lit (.bool true)], args := [d1, d2, d3, d4, d5, d6, d7, d8, d9] }
  | _ => none }
def fnObserveShiftInvariantRow : OpenClaim := { program := "qxb6613595a", sum := "ea90d9848c93d5c4c07db61f80d117af80fe2d14a8c0770004a950ec2c9cfce8", func := "example.com/antecede/antecede/zzlaws_root_b1.FnObserveShiftInvariant", spec := "fnObserveShiftInvariant", inPlace := ["(*internal/sync.Mutex).Lock", "internal/race.Disable", "sync/atomic.CompareAndSwapInt32", "internal/race.Enable", "internal/race.Acquire", "(*internal/sync.Mutex).lockSlow", "internal/sync.runtime_canSpin", "internal/sync.runtime_doSpin", "internal/sync.throw", "internal/sync.runtime_nanotime", "internal/sync.runtime_SemacquireMutex", "sync/atomic.AddInt32", "(*internal/sync.Mutex).Unlock", "internal/race.ReleaseMerge", "(*internal/sync.Mutex).unlockSlow", "internal/sync.fatal", "internal/sync.runtime_Semrelease"], unfollowed := true, recurses := true, apart := false }
def FnObserveShiftInvariantSaid : Prop := fnObserveShiftInvariantRow.holds Try.pinned (OpenSpec.ofChange fnObserveShiftInvariantSpec)

/-- ITS FALSE NEIGHBOUR: 'it returns false'. Refute it at one input. -/
def fnObserveShiftInvariantWrong : ChangeSpec := { name := "fnObserveShiftInvariant", fn := fun _ => fun
  | [d1, d2, d3, d4, d5, d6, d7, d8, d9] => { results := [.lit (.bool false)], args := [d1, d2, d3, d4, d5, d6, d7, d8, d9] }
  | _ => none }
def FnObserveShiftInvariantWrongFalsely : Prop := fnObserveShiftInvariantRow.holds Try.pinned (OpenSpec.ofChange fnObserveShiftInvariantWrong)

end Rows
end Go.Proofs.Qxb6613595a
