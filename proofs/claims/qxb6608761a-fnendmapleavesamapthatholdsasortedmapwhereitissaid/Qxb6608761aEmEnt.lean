import Derived.Test.Qxb6608761aEmClo
import Derived.Shelf.SlSortCmp.WholeK
import Derived.Shelf.Lay
import Derived.Ground.SlsfProg
namespace Go.Proofs.Qxb6608761a
open Go.RowKit

structure Ent where
  s : Nat
  e : Nat
  pd : Nat
  h : Nat
def encE (x : Ent) : List Value := [.int .i64 (x.s : Int), .int .i64 (x.e : Int), .int .i64 (x.pd : Int), .int .u64 (x.h : Int)]
theorem encE_entV (x : Ent) : Value.agg (encE x).toArray = entV x.s x.e x.pd x.h := rfl
theorem encE_length (x : Ent) : (encE x).length = 4 := rfl
theorem encE_one (x : Ent) : ∀ v ∈ encE x, v.oneCell' = true := fun v hv => by
  simp [encE] at hv
  rcases hv with rfl | rfl | rfl | rfl <;> rfl
def flatE (l : List Ent) : List Value := l.flatMap encE
theorem flatE_length (l : List Ent) : (flatE l).length = l.length * 4 := by
  induction l with
  | nil => rfl
  | cons x l ih => rw [flatE, List.flatMap_cons, List.length_append, encE_length]; rw [flatE] at ih; rw [ih, List.length_cons]; omega
theorem flatE_append (a b : List Ent) : flatE (a ++ b) = flatE a ++ flatE b := by simp [flatE]
theorem flatE_get : ∀ (l : List Ent) (i j : Nat) (x : Ent), l[i]? = some x → j < 4 → (flatE l)[4 * i + j]? = (encE x)[j]?
  | [], _, _, _, h, _ => by simp at h
  | y :: l, 0, j, x, h, hj => by
    simp at h
    subst h
    rw [flatE, List.flatMap_cons, Nat.mul_zero, Nat.zero_add, List.getElem?_append_left (by rw [encE_length]; exact hj)]
  | y :: l, i + 1, j, x, h, hj => by
    have ih := flatE_get l i j x (by simpa using h) hj
    rw [flatE, List.flatMap_cons, List.getElem?_append_right (by rw [encE_length]; omega), encE_length, show 4 * (i + 1) + j - 4 = 4 * i + j by omega]
    exact ih

open Go.Shelf in
shelf_lay_g SlLaysF0.n6 Slsf 6 at Try 38 as Try.sortEnt

/-- an entry that the sort of this road meets: it lies in the n bytes, holds no pending map, and its head is set -/
def Ok (f : Nat → Nat) (n np : Nat) (x : Ent) : Prop := x.s ≤ x.e ∧ x.e ≤ n ∧ np ≤ x.pd ∧ x.h = headK 8 (seg f x.s x.e)
def cfE (f : Nat → Nat) (x y : Ent) : Int := cmpN (seg f x.s x.e) (seg f y.s y.e)

open Go.Sort in
theorem swoE (f : Nat → Nat) (n np : Nat) : SWO (ltOf fun x y : { x : Ent // Ok f n np x } => cfE f x.1 y.1) where
  irrefl x := by simp [ltOf, cfE, cmpN_refl]
  trans x y z h1 h2 := by
    have h1 : cmpN (seg f x.1.s x.1.e) (seg f y.1.s y.1.e) < 0 := of_decide_eq_true h1
    have h2 : cmpN (seg f y.1.s y.1.e) (seg f z.1.s z.1.e) < 0 := of_decide_eq_true h2
    have a := cmpN_trans _ _ _ (Int.le_of_lt h1) (Int.le_of_lt h2)
    refine decide_eq_true (?_ : cmpN (seg f x.1.s x.1.e) (seg f z.1.s z.1.e) < 0)
    by_cases e : cmpN (seg f x.1.s x.1.e) (seg f z.1.s z.1.e) = 0
    · rw [cmpN_eq _ _ e] at h1
      have c := cmpN_swap (seg f y.1.s y.1.e) (seg f z.1.s z.1.e)
      omega
    · omega
  ntrans x y z h1 h2 := by
    have h1 : ¬ cmpN (seg f x.1.s x.1.e) (seg f y.1.s y.1.e) < 0 := of_decide_eq_false h1
    have h2 : ¬ cmpN (seg f y.1.s y.1.e) (seg f z.1.s z.1.e) < 0 := of_decide_eq_false h2
    have a := cmpN_swap (seg f x.1.s x.1.e) (seg f y.1.s y.1.e)
    have b := cmpN_swap (seg f y.1.s y.1.e) (seg f z.1.s z.1.e)
    have c := cmpN_swap (seg f x.1.s x.1.e) (seg f z.1.s z.1.e)
    have d := cmpN_trans (seg f z.1.s z.1.e) (seg f y.1.s y.1.e) (seg f x.1.s x.1.e) (by omega) (by omega)
    exact decide_eq_false (by show ¬ cmpN (seg f x.1.s x.1.e) (seg f z.1.s z.1.e) < 0; omega)
end Go.Proofs.Qxb6608761a
