import Derived.Test.Qxb6613595aFmtOrFmt
import Derived.Below
import Derived.Deep.QuietTactic
import Derived.BigQuiet
import Derived.Laws.Externs
import Derived.Lib.Bytealg
namespace Go.Proofs.Qxb6613595aFmt
open Go.RowKit Go.Extern.Stop Go.Stop Go.Extern

@[go_sem] theorem call73 (a b : ByteArray) (w : World) : (callFunc 73 #[.string a, .string b]).run Tryf.prog w = .ok (.value (.int .i64 (Lib.compareBytes a.data.toList b.data.toList))) w := by
  rw [run_callFunc_extern Tryf.func73 (by kernel_rfl) (by kernel_rfl) (by kernel_rfl) (e := Extern.BytealgCompare.compare) (by kernel_rfl), Lib.run_compareString]
  rfl
@[go_sem] theorem call57 (x y : Nat) (w : World) : (callFunc 57 #[.int .u64 (x : Int), .int .u64 (y : Int), .int .u64 0]).run Tryf.prog w = .ok (.value (.tuple #[.int .u64 (((x : Int) + y) % 18446744073709551616), .int .u64 (((x : Int) + y) / 18446744073709551616)])) w := by
  rw [run_callFunc_extern Tryf.func57 (by kernel_rfl) (by kernel_rfl) (by kernel_rfl) (e := add64Entry) (by kernel_rfl), run_add64 x y 0 (by omega) (by omega) (by omega) (by omega)]
  simp [Result.andThen]

set_option maxHeartbeats 400000 in
theorem place_any (F : Interp) (h : ByteArray) (p : Option Addr) (n c : Nat) (tx : ByteArray) (l : Int) (fl ex : ByteArray) (w : World) (hF : F.answers w.tape) :
    Calls Tryf.prog 37 #[.agg #[.string h, .slice p n c, .string tx, .int .i64 l, .string fl, .string ex]] w fun e w' => (∃ s, e = .returned (.string s)) ∧ Below w.heap.size w w' := by
  have hF' := answers_open hF
  go_enter Tryf.func37, Tryf.ntmps37
  go_wp2
  · refine bodyPost_ret (results_tmp rfl _ _ _) rfl ?_
    exact ⟨⟨_, rfl⟩, (((Below.refl _ w).alloc (Nat.le_refl _) _).alloc (by simp) _).drew⟩
  · refine bodyPost_ret (results_tmp rfl _ _ _) rfl ?_
    exact ⟨⟨_, rfl⟩, (((Below.refl _ w).alloc (Nat.le_refl _) _).alloc (by simp) _).drew⟩
theorem refuse_any (h : ByteArray) (p : Option Addr) (n c : Nat) (tx : ByteArray) (l : Int) (fl ex r : ByteArray) (w : World) :
    Calls Tryf.prog 23 #[.agg #[.string h, .slice p n c, .string tx, .int .i64 l, .string fl, .string ex], .string r] w fun e w' => (∃ b, e = .returned (.pointer (some ⟨b, 0, none⟩))) ∧ Below w.heap.size w w' := by
  go_enter Tryf.func23, Tryf.ntmps23
  go_wp2
  go_ret
  exact ⟨⟨_, rfl⟩, ((Below.refl _ w).alloc (Nat.le_refl _) _).alloc (by simp) _⟩
theorem start_any (b : Nat) (w : World) : Calls Tryf.prog 58 #[.int .u8 b] w fun e w' => (∃ x, e = .returned (.bool x)) ∧ w' = w := by
  go_enter Tryf.func58, Tryf.ntmps58
  go_wp2
  go_ret
  exact ⟨⟨_, rfl⟩, rfl⟩
theorem nan_any (b : Nat) (w : World) : Calls Tryf.prog 54 #[.int .u64 b] w fun e w' => e = .returned (.bool false) ∧ w' = w := by
  go_enter Tryf.func54, Tryf.ntmps54
  go_wp2
  go_ret
  exact ⟨by simp, rfl⟩
def cmpN (x y : Nat) : Int := if x < y then -1 else if y < x then 1 else 0
theorem cmp_any (x y : Nat) (w : World) : Calls Tryf.prog 30 #[.int .u64 x, .int .u64 y] w fun e w' => e = .returned (.int .i64 (cmpN x y)) ∧ w' = w := by
  have H := fun b => nan_any b w
  go_enter Tryf.func30, Tryf.ntmps30
  go_wp2_with (go_at_call 54; refine (H _).mono ?_; rintro e w' ⟨rfl, rfl⟩)
  all_goals (refine bodyPost_ret (results_tmp rfl _ _ _) rfl ?_)
  all_goals (refine ⟨?_, rfl⟩; unfold cmpN; (repeat' split) <;> first | rfl | omega)
theorem or_any (g : Nat) (x y : Int) (w : World) (h0 : w.cell? ⟨g, 0, none⟩ = some (.int .i64 x)) (h1 : w.cell? ⟨g, 1, none⟩ = some (.int .i64 y)) :
    Calls Tryf.prog 29 #[.slice (some ⟨g, 0, none⟩) 2 2] w fun e w' => e = .returned (.int .i64 (if x = 0 then y else x)) ∧ w' = w := by
  by_cases hx : x = 0
  · subst hx
    by_cases hy : y = 0
    · subst hy
      go_enter Tryf.func29, Tryf.ntmps29
      go_wp2
      refine wp_loop_rounds 3 ?_
      rw [rounds_succ]
      go_wp2
      rw [rounds_succ]
      go_wp2
      rw [rounds_succ]
      go_wp2
      go_ret
      exact ⟨rfl, rfl⟩
    · go_enter Tryf.func29, Tryf.ntmps29
      go_wp2
      refine wp_loop_rounds 3 ?_
      rw [rounds_succ]
      go_wp2
      rw [rounds_succ]
      go_wp2
      go_ret
      exact ⟨rfl, rfl⟩
  · go_enter Tryf.func29, Tryf.ntmps29
    go_wp2
    refine wp_loop_rounds 3 ?_
    rw [rounds_succ]
    go_wp2
    go_ret
    exact ⟨rfl, rfl⟩
theorem strcmp_any (a b : ByteArray) (w : World) : Calls Tryf.prog 31 #[.string a, .string b] w fun e w' => e = .returned (.int .i64 (Lib.compareBytes a.data.toList b.data.toList)) ∧ w' = w := by
  have H : Calls Tryf.prog 55 #[.string a, .string b] w fun e w' => e = .returned (.int .i64 (Lib.compareBytes a.data.toList b.data.toList)) ∧ w' = w := by
    go_enter Tryf.func55, Tryf.ntmps55
    go_wp2
    go_ret
    exact ⟨rfl, rfl⟩
  go_enter Tryf.func31, Tryf.ntmps31
  go_wp2_with (go_at_call 55; refine H.mono ?_; rintro e w' ⟨rfl, rfl⟩)
  go_ret
  exact ⟨rfl, rfl⟩
theorem find1_any (h : ByteArray) (n : Nat) (t : ByteArray) (w : World) : Calls Tryf.prog 75 #[.agg #[.string h, .int .u64 n], .string t] w fun e w' => e = .returned (.int .i64 (Lib.compareBytes h.data.toList t.data.toList)) ∧ Below w.heap.size w w' := by
  have H := strcmp_any h t
  go_enter Tryf.func75, Tryf.ntmps75
  go_wp2_with (go_at_call 31; refine (H _).mono ?_; rintro e w' ⟨rfl, rfl⟩)
  go_ret
  exact ⟨rfl, (Below.refl _ w).alloc (Nat.le_refl _) _⟩
end Go.Proofs.Qxb6613595aFmt
