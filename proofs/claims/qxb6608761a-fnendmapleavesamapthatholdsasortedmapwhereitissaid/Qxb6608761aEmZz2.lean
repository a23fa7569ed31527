import Derived.Test.Qxb6608761aEmZz
namespace Go.Proofs.Qxb6608761a
open Go.RowKit Go.Sort

theorem results_five {fn : Func} {a b c d e : Tmp} (h : fn.results = #[.tmp a, .tmp b, .tmp c, .tmp d, .tmp e]) (tmps : Array Value) (P : Program) (w : World) :
    (results fn tmps).run P w = .ok (.tuple #[tmps.getD a undef, tmps.getD b undef, tmps.getD c undef, tmps.getD d undef, tmps.getD e undef]) w := by
  simp [results, h]

set_option maxRecDepth 20000 in
set_option maxHeartbeats 1600000 in
theorem pendAt_any (oB gp cp a b c d e : Nat) (w : World) (h1 : w.cell? ⟨oB, 1, none⟩ = some (.slice (some ⟨gp, 0, none⟩) 1 cp)) (h5 : ∀ j, j < 5 → w.cell? ⟨gp, j, none⟩ = (pendL a b c d e)[j]?) :
    Calls Try.prog 30 #[.pointer (some ⟨oB, 0, none⟩), .int .i64 0] w fun r w' => r = .returned (.tuple (pendL a b c d e).toArray) ∧ Below w.heap.size w w' := by
  have c0 : w.cell? ⟨gp, 0, none⟩ = some (.int .i64 (a : Int)) := h5 0 (by omega)
  have c1 : w.cell? ⟨gp, 1, none⟩ = some (.int .i64 (b : Int)) := h5 1 (by omega)
  have c2 : w.cell? ⟨gp, 2, none⟩ = some (.int .i64 (c : Int)) := h5 2 (by omega)
  have c3 : w.cell? ⟨gp, 3, none⟩ = some (.int .i64 (d : Int)) := h5 3 (by omega)
  have c4 : w.cell? ⟨gp, 4, none⟩ = some (.int .i64 (e : Int)) := h5 4 (by omega)
  clear h5
  go_enter Try.func30, Try.ntmps30
  go_wp2
  go_quiet (fail)
  go_wp2
  refine bodyPost_ret (results_five rfl _ _ _) rfl ?_
  exact ⟨rfl, below_drewN (below_box _ _) _⟩
set_option maxRecDepth 20000 in
set_option maxHeartbeats 1600000 in
theorem sortedAt_any (oB gs n cs k s e : Nat) (w : World) (h1 : w.cell? ⟨oB, 2, none⟩ = some (.slice (some ⟨gs, 0, none⟩) n cs)) (hk : k < n) (c0 : w.cell? ⟨gs, k * 4, none⟩ = some (.int .i64 (s : Int))) (c1 : w.cell? ⟨gs, k * 4 + 1, none⟩ = some (.int .i64 (e : Int))) :
    Calls Try.prog 31 #[.pointer (some ⟨oB, 0, none⟩), .int .i64 k] w fun r w' => r = .returned (.tuple #[.int .i64 (s : Int), .int .i64 (e : Int)]) ∧ ∃ j, w' = w.drewN j := by
  go_enter Try.func31, Try.ntmps31
  go_wp2
  go_quiet (fail)
  go_wp2
  go_ret2
  exact ⟨rfl, _, rfl⟩
end Go.Proofs.Qxb6608761a
