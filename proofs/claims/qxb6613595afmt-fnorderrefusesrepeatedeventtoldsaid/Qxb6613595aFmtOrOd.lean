import Derived.Test.Qxb6613595aFmtOrCk1
namespace Go.Proofs.Qxb6613595aFmt
open Go.RowKit Go.Maps Go.Extern.Stop Go.Stop Go.Extern
attribute [local go_sem ↓] Go.wp_at_zero Go.wp_at_succ
set_option linter.unusedVariables false

set_option maxRecDepth 20000 in
set_option maxHeartbeats 4000000 in
theorem order_any (F : Interp) (TT : TxtOk F) (evB N C a0 a1 : Nat) (ev : Nat → Ev) (w : World) (hF : F.answers w.tape) (hE : RdEv w.heap.size w evB N ev) (hN : N ≤ 4098) (hM : sumE ev N ≤ 1000000) (hLn : Ln N ev) (h0 : a0 < N) (h1 : a1 < N) (hne : a0 ≠ a1) (hh : (ev a0).host = (ev a1).host) (hg : getE (ev a0).E (ev a0).ne (ev a0).host = getE (ev a1).E (ev a1).ne (ev a1).host) :
    Calls Tryf.prog 8 #[.slice (some ⟨evB, 0, none⟩) N C] w fun e w' => Below w.heap.size w w' ∧ ∃ b, e = .returned (.tuple #[.slice none 0 0, .iface 79 (.pointer (some ⟨b, 0, none⟩))]) := by
  have H10 : Hid (Calls Tryf.prog 10 #[.slice (some ⟨evB, 0, none⟩) N C] w fun e w' => Hid (Below w.heap.size w w') ∧ ∃ b, e = .returned (.tuple #[.pointer none, .slice none 0 0, .iface 79 (.pointer (some ⟨b, 0, none⟩))])) := check_any F TT evB N C a0 a1 ev w hF hE hN hM hLn h0 h1 hne hh hg
  clear TT hF hE hM hLn hh hg
  go_enter Tryf.func8, Tryf.ntmps8
  go_wp2_with (go_at_call 10; refine H10.out.mono ?_; rintro e W1 ⟨HB1, b, rfl⟩)
  go_ret2
  exact ⟨HB1.out, b, rfl⟩
end Go.Proofs.Qxb6613595aFmt
