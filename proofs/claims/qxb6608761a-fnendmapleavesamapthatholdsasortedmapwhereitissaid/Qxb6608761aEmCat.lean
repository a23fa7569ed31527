import Derived.Test.Qxb6608761aEmBack
namespace Go.Proofs.Qxb6608761a
open Go.RowKit Go.Sort

set_option maxRecDepth 20000 in
set_option maxHeartbeats 1600000 in
theorem zz_any (p q r : Option Addr) (n m l c d e : Nat) (i j : Int) (w : World) :
    Calls Try.prog 29 #[.slice p n c, .slice q m d, .slice r l e, .int .i64 i, .int .i64 j] w fun r w' => (∃ β, r = .returned (.bool β)) ∧ w' = w := by
  go_enter Try.func29, Try.ntmps29
  go_wp2
  all_goals (go_ret; exact ⟨⟨_, rfl⟩, rfl⟩)

def cat (f : Nat → Nat) (T : Nat → Nat × Nat) (k : Nat) : List Nat := (seg T 0 k).flatMap fun a => seg f a.1 a.2
theorem cat_zero (f : Nat → Nat) (T : Nat → Nat × Nat) : cat f T 0 = [] := by simp [cat, seg]
theorem cat_succ (f : Nat → Nat) (T : Nat → Nat × Nat) (k : Nat) : cat f T (k + 1) = cat f T k ++ seg f (T k).1 (T k).2 := by
  simp [cat, seg_snoc (f := T) (Nat.zero_le k)]
theorem cat_le (f : Nat → Nat) (T : Nat → Nat × Nat) (k m : Nat) (h : k ≤ m) : (cat f T k).length ≤ (cat f T m).length := by
  induction m with
  | zero => obtain rfl : k = 0 := by omega
            exact Nat.le_refl _
  | succ m ih =>
    by_cases e : k = m + 1
    · subst e; exact Nat.le_refl _
    · rw [cat_succ, List.length_append]; have := ih (by omega); omega

theorem appendB (w : World) (b N L m : Nat) (F g : Nat → Nat) (sp : Option Addr) (sCap : Nat) (ty : TypeId) (hb : w.heap[b]? = some (.cells (rowB N F).toArray 5 (0, 0))) (hN : N ≤ 1048576) (hL : L + m ≤ N)
    (hs : ∀ i, i < m → ∃ x, sp = some x ∧ w.cell? (x.add i) = some (.int .u8 (g i : Int))) (hnil : sp = none → m = 0 ∧ sCap = 0) :
    Sem.run Try.prog (Builtin.append_ #[38, 38] ty #[.slice (some ⟨b, 0, none⟩) L N, .slice sp m sCap]) w = .ok (.slice (some ⟨b, 0, none⟩) (L + m) N) (w.setRow b (rowB N (fun i => if L ≤ i ∧ i < L + m then g (i - L) else F i)).toArray) := by
  obtain ⟨i, hi, hz, hsz, hby⟩ := info_parts info5
  cases sp with
  | none =>
    obtain ⟨rfl, rfl⟩ := hnil rfl
    rw [rowB_congr (f := fun i => if L ≤ i ∧ i < L + 0 then g (i - L) else F i) (g := F) (fun i _ => by rw [if_neg (by omega)]), setRow_same hb]
    exact run_append_owned_none (P := Try.prog) w 0 38 ty 5 i 1 Try.underlying38 hi _ L ((rowB N F).take L) ⟨by simp [rowB_length]; omega, .inr ⟨b, N, _, rfl, Nat.zero_le _, hb, by omega, by simp only [maxLen]; omega, by simp [rowB_length], by simp⟩⟩
  | some x =>
    have h := run_append_room (P := Try.prog) w 38 ty 5 i Try.underlying38 hi b L N (rowB N F).toArray hb x m sCap (rowB m g) (by rw [rowB_length, hsz]; omega)
      (fun j v hj => by
        have hjm : j < m := by
          by_cases hh : j < m
          · exact hh
          · rw [List.getElem?_eq_none (by rw [rowB_length]; omega)] at hj; cases hj
        obtain ⟨y, hy, hc⟩ := hs j hjm
        cases hy
        rw [rowB_get _ _ _ hjm] at hj; cases hj
        exact hc)
      (rowB_one _ _) hL (by rw [hsz, rowB_length]; simp [rowB_length]; omega)
    rw [h, hsz, rowB_length, Nat.mul_one, rowB_splice N L m F g hL]

structure Cat (f : Nat → Nat) (T : Nat → Nat × Nat) (n k B : Nat) (w wr : World) : Prop where
  below : Below B w wr
  blk : ∃ F, wr.heap[B]? = some (.cells (rowB n F).toArray 5 (0, 0)) ∧ ∀ i, i < (cat f T k).length → F i = (cat f T k).getD i 0
theorem Cat.rd {f : Nat → Nat} {T : Nat → Nat × Nat} {n k B : Nat} {w wr : World} (h : Cat f T n k B w wr) (hn : (cat f T k).length ≤ n) : Rd wr (some ⟨B, 0, none⟩) (cat f T k).length (fun i => (cat f T k).getD i 0) := fun i hi => by
  obtain ⟨F, hF, hc⟩ := h.blk
  exact ⟨_, rfl, by rw [Addr.add_lit, cell_blk hF, List.getElem?_toArray, Nat.zero_add, rowB_get n F i (by omega), hc i hi]⟩
theorem Cat.next {f : Nat → Nat} {T : Nat → Nat × Nat} {n k B : Nat} {w wr : World} {F : Nat → Nat} (hbl : Below B w wr) (hF : wr.heap[B]? = some (.cells (rowB n F).toArray 5 (0, 0))) (hc : ∀ i, i < (cat f T k).length → F i = (cat f T k).getD i 0) (hB : B ≤ B) :
    Cat f T n (k + 1) B w (wr.drew.setRow B (rowB n (fun i => if (cat f T k).length ≤ i ∧ i < (cat f T k).length + ((T k).2 - (T k).1) then f ((T k).1 + (i - (cat f T k).length)) else F i)).toArray) := by
  refine ⟨below_setRow hbl.drew hB _, _, setRow_heap wr.drew B _ _ 5 _ hF, fun i hi => ?_⟩
  rw [cat_succ, List.length_append, seg_length] at hi
  rw [cat_succ]
  by_cases h : i < (cat f T k).length
  · rw [if_neg (by omega), hc i h]
    simp [List.getD_eq_getElem?_getD, List.getElem?_append_left h]
  · rw [if_pos (by omega)]
    simp only [List.getD_eq_getElem?_getD]
    rw [List.getElem?_append_right (by omega), seg_get _ (by omega)]
    rfl
end Go.Proofs.Qxb6608761a
