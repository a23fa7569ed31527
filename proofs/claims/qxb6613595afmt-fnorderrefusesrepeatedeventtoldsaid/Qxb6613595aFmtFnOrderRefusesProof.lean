/-
  Rows.FnOrderRefusesRepeatedEventToldSaid: the told card. The walks are Qxb6613595aFmtOr*.lean's.
-/
import Derived.Test.Qxb6613595aFmtOrLift
import Derived.Test.Qxb6613595aFmtOrOd
import Derived.Test.Qxb6613595aFmtOrTold
namespace Go.Proofs.Qxb6613595aFmt
open Go.Stop

theorem order_ok (F : Interp) (T : TxtOk F) : OrderOk F := fun evB N C a0 a1 ev w hF hE hN hM hL h0 h1 hne hh hg => order_any F T evB N C a0 a1 ev w hF hE hN hM hL h0 h1 hne hh hg

/-- THE STATEMENT -/
theorem fnOrderRefusesRepeatedEvent_told : Rows.FnOrderRefusesRepeatedEventToldSaid := told_holds fun F => order_ok F.told (told_ok F)
end Go.Proofs.Qxb6613595aFmt
