/-
  DERIVED. GIVEN WITH THE SEED: THE CARDS: each row of Qxb6613595aFmtRows.lean that lists a variable, with what it lists TIED to the program's text (the seventh form; the later family's looks); each row that meets fmt, with fmt's text TOLD by the authors' own Lean function (tested against real Go, not proved from fmt's source: count such statements apart). THE CARD IS WHAT COUNTS. Prove the row's statement (the work); the ties are given (Qxb6613595aFmtTie.lean); close each card by the builder's one call (the guide's Derived/Test/ToyasCard.lean, 'card_holds'). Laid BY PROGRAM, IN A SANDBOX (cutbox-door.mjs). By AI agents, Wed Nov 11 2026. No macro, syntax, notation, axiom, sorry.
-/
import Derived.Test.Qxb6613595aFmtRows
import GoSem.ClaimSeven
namespace Go.Proofs.Qxb6613595aFmt
namespace Rows

/-- THE TOLD CARD OF 'zzlaws_root_b1.FnOrderRefusesRepeatedEvent'. -/
def fnOrderRefusesRepeatedEventCard : Claim7 := { stood := { row := fnOrderRefusesRepeatedEventRow, standIns := [], harness := (true, "8a7d101a91bc7121c794010617e21b63927ef63951bef8b8adbe31099ffc4619"), looks := false }, told := true, goes := false }
def FnOrderRefusesRepeatedEventToldSaid : Prop := Claim7.holds Tryf.pinned (.plain (OpenSpec.ofChange fnOrderRefusesRepeatedEventSpec)) fnOrderRefusesRepeatedEventCard
/-- ITS FALSE NEIGHBOUR. Refute it at one input. -/
def FnOrderRefusesRepeatedEventToldWrongFalsely : Prop := Claim7.holds Tryf.pinned (.plain (OpenSpec.ofChange fnOrderRefusesRepeatedEventWrong)) fnOrderRefusesRepeatedEventCard
end Rows
end Go.Proofs.Qxb6613595aFmt
