import Derived.Test.Qxb6613595aFmtOrIx
namespace Go.Proofs.Qxb6613595aFmt
open Go.RowKit Go.Maps Go.Extern.Stop Go.Stop Go.Extern
attribute [local go_sem ↓] Go.wp_at_zero Go.wp_at_succ
set_option linter.unusedVariables false

/-- What is asked of fmt's texts: two are not empty, two are not too long. -/
structure TxtOk (F : Interp) : Prop where
  noOwn : ∀ h : ByteArray, h.size ≤ 67 → (FmtStop.textOf (F "fmt.Sprintf" [[116, 104, 101, 32, 118, 101, 99, 116, 111, 114, 32, 104, 97, 115, 32, 110, 111, 32, 101, 110, 116, 114, 121, 32, 102, 111, 114, 32, 105, 116, 115, 32, 111, 119, 110, 32, 104, 111, 115, 116, 32, 37, 113], Tryf.shape9, FmtStop.pack h.data.toList] 0)).size ≠ 0
  twin : ∀ (h p : ByteArray) (k : Nat), h.size ≤ 67 → p.size < 1073741824 → k < 18446744073709551616 → (FmtStop.textOf (F "fmt.Sprintf" [[104, 111, 115, 116, 32, 37, 113, 32, 104, 97, 115, 32, 97, 110, 111, 116, 104, 101, 114, 32, 101, 118, 101, 110, 116, 32, 119, 105, 116, 104, 32, 111, 119, 110, 32, 101, 110, 116, 114, 121, 32, 37, 100, 44, 32, 97, 116, 32, 37, 115], Tryf.shape9, FmtStop.pack h.data.toList, Tryf.shape42, digits 8 ((k : Int) % 18446744073709551616).toNat, Tryf.shape9, FmtStop.pack p.data.toList] 0)).size ≠ 0
  at2 : ∀ (l : Int) (f : ByteArray), (Lit.int .i64 l).wf = true → f.size ≤ 1048576 → (FmtStop.textOf (F "fmt.Sprintf" [[108, 105, 110, 101, 32, 37, 100, 32, 111, 102, 32, 37, 115], Tryf.shape3, digits 8 (l % 18446744073709551616).toNat, Tryf.shape9, FmtStop.pack f.data.toList] 0)).size < 1073741824
  at1 : ∀ l : Int, (Lit.int .i64 l).wf = true → (FmtStop.textOf (F "fmt.Sprintf" [[108, 105, 110, 101, 32, 37, 100], Tryf.shape3, digits 8 (l % 18446744073709551616).toNat] 0)).size < 1073741824

set_option maxHeartbeats 400000 in
theorem placeT_any (F : Interp) (T : TxtOk F) (h : ByteArray) (p : Option Addr) (n c : Nat) (tx : ByteArray) (l : Int) (fl ex : ByteArray) (w : World) (hF : F.answers w.tape) (hl : (Lit.int .i64 l).wf = true) (hf : fl.size ≤ 1048576) :
    Calls Tryf.prog 37 #[.agg #[.string h, .slice p n c, .string tx, .int .i64 l, .string fl, .string ex]] w fun e w' => (∃ s, e = .returned (.string s) ∧ s.size < 1073741824) ∧ Below w.heap.size w w' := by
  have hF' := answers_open hF
  have TT : Hid (TxtOk F) := T
  clear T
  go_enter Tryf.func37, Tryf.ntmps37
  go_wp2
  · refine bodyPost_ret (results_tmp rfl _ _ _) rfl ?_
    exact ⟨⟨_, rfl, TT.out.at2 l fl hl hf⟩, (((Below.refl _ w).alloc (Nat.le_refl _) _).alloc (by simp) _).drew⟩
  · refine bodyPost_ret (results_tmp rfl _ _ _) rfl ?_
    exact ⟨⟨_, rfl, TT.out.at1 l hl⟩, (((Below.refl _ w).alloc (Nat.le_refl _) _).alloc (by simp) _).drew⟩

/-- A text that is not empty; an event whose own stamp is refused. -/
def NEs (s : ByteArray) : Prop := s.size ≠ 0
def Bad (D : IxD) (i : Nat) : Prop := D.own i = 0 ∨ 0 ≤ D.T i
/-- Lines and files. -/
def Ln (N : Nat) (ev : Nat → Ev) : Prop := ∀ i, i < N → (Lit.int .i64 (ev i).line).wf = true ∧ (ev i).file.size ≤ 1048576

end Go.Proofs.Qxb6613595aFmt
