import Derived.Test.Qxb6608761aEmKw3
import Derived.Deep.DeepCutAuto
namespace Go.Proofs.Qxb6608761a
open Go.RowKit Go.Sort

theorem BB.nil {w : World} {base : Nat} {p : Option Addr} {n : Nat} {f : Nat → Nat} (h : BB w base p n f) (hp : p = none) : n = 0 := by
  rcases h with ⟨_, h2⟩ | ⟨b, h2, _⟩
  · exact h2
  · rw [hp] at h2; cases h2
/-- A cell of the row that the law gathers, stored. -/
theorem got_store {wr w18 : World} {k2 gb k4 : Nat} {G : Nat → Nat × Nat} (hg : wr.heap[gb]? = some (.cells (rowS k2 G) 47 (0, 0))) (hb : Below w18.heap.size w18 wr) (hgb : w18.heap.size ≤ gb) (v : Nat × Nat) :
    ((wr.setCell ⟨gb, k4 * 2, none⟩ (.int .i64 (v.1 : Int))).setCell ⟨gb, k4 * 2 + 1, none⟩ (.int .i64 (v.2 : Int))).heap[gb]? = some (.cells (rowS k2 (put G k4 v)) 47 (0, 0)) ∧ Below w18.heap.size w18 ((wr.setCell ⟨gb, k4 * 2, none⟩ (.int .i64 (v.1 : Int))).setCell ⟨gb, k4 * 2 + 1, none⟩ (.int .i64 (v.2 : Int))) := by
  refine ⟨?_, (hb.setCell hgb _).setCell hgb _⟩
  rw [setCell_blk _ _ _ _ _ _ (setCell_blk _ _ _ _ _ _ hg), ← rowS_put, Nat.mul_comm]
/-- What follows the region n in a row of statements, and the region itself. -/
def after (n : Nat) : Code → Code
  | .seq (.region k _ _) r => if k = n then r else after n r
  | .seq _ r => after n r
  | c => c
def regionAt (n : Nat) : Code → Code
  | .seq (.region k o d) r => if k = n then .region k o d else regionAt n r
  | .seq _ r => regionAt n r
  | c => c
def law49 (fF : Func) : Code := regionAt 49 (fF.body.getD .skip)
def law50 (fF : Func) : Code := after 49 (fF.body.getD .skip)
end Go.Proofs.Qxb6608761a
