import Derived.Test.Qxb6608761aEmByt
namespace Go.Proofs.Qxb6608761a
open Go.RowKit Go.Sort

theorem setRow_same {w : World} {b : Nat} {c : Array Value} {t : TypeId} (h : w.heap[b]? = some (.cells c t (0, 0))) : w.setRow b c = w := by
  unfold World.setRow
  congr 1
  apply Array.ext
  · simp
  · intro i h1 h2
    rw [Array.getElem_modify]
    by_cases hi : b = i
    · subst hi
      have : w.heap[b] = .cells c t (0, 0) := by
        rw [Array.getElem?_eq_getElem h2] at h; exact Option.some.inj h
      simp [this]
    · rw [if_neg hi]

theorem eqNil (c : Nat) (w : World) : (binOp .eql 38 (.slice none 0 c) (.slice none 0 0)).run Try.prog w = .ok (.bool true) w := by kernel_rfl
theorem eqNot (x : Addr) (n c : Nat) (w : World) : (binOp .eql 38 (.slice (some x) n c) (.slice none 0 0)).run Try.prog w = .ok (.bool false) w := by kernel_rfl
theorem drewThrice (w : World) (i j k : Nat) : ∃ q, ((w.drewN i).drewN j).drewN k = w.drewN q := ⟨i + j + k, by simp [World.drewN, Nat.add_assoc]⟩

set_option maxRecDepth 20000 in
theorem clone_any (p : Option Addr) (n c : Nat) (f : Nat → Nat) (w : World) (hn : n ≤ 1048576) (hp : Rd w p n f) (hnil : p = none → n = 0) :
    Calls Try.prog 16 #[.slice p n c] w fun r w' => ∃ p', r = .returned (.slice p' n n) ∧ BB w' w.heap.size p' n f ∧ Below w.heap.size w w' := by
  cases p with
  | none =>
    obtain rfl := hnil rfl
    clear hp hnil
    have hq := eqNil c
    go_enter Try.func16, Try.ntmps16
    go_wp2
    go_ret
    exact ⟨none, rfl, .inl ⟨rfl, rfl⟩, Below.refl _ _⟩
  | some x =>
    have hmk := makeB n n (Nat.le_refl _) hn
    have HC : Hid _ := copyB (w.alloc (.cells (rowB n (fun _ => 0)).toArray 5)) w.heap.size n 0 n (fun _ => 0) f (some ⟨w.heap.size, 0, none⟩) (some x) n n n c 3 (heap_alloc_new w _) (Nat.min_self n) (by omega) (fun _ => rfl)
      (fun i hi => by
        obtain ⟨y, hy, hc⟩ := hp i hi
        cases hy
        exact ⟨x, rfl, by rw [World.cell?_alloc_lt _ _ _ (World.block_lt_of_cell? _ _ hc), hc]⟩)
    rw [setRow_new, rowB_congr (f := fun i => if 0 ≤ i ∧ i < 0 + n then f (i - 0) else 0) (g := f) (fun i hi => by rw [if_pos (by omega), Nat.sub_zero])] at HC
    have hc := Hid.out HC
    have hq := eqNot x n c
    clear hp hnil HC
    go_enter Try.func16, Try.ntmps16
    go_wp2
    go_ret
    exact ⟨_, rfl, .inr ⟨_, rfl, Nat.le_refl _, heap_alloc_new w _⟩, below_box _ _⟩

def RdZ (w : World) (b o m : Nat) (Z : Nat → Int × Int) : Prop := ∀ i, i < m → w.cell? ⟨b, o + i * 2, none⟩ = some (.int .i64 (Z i).1) ∧ w.cell? ⟨b, o + i * 2 + 1, none⟩ = some (.int .i64 (Z i).2)
structure Back (Z : Nat → Int × Int) (m : Nat) (e : Int) : Prop where
  fst : ∀ i, i < m → 0 ≤ (Z i).1 ∧ (Z i).1 ≤ (Z i).2
  next : ∀ i, i + 1 < m → (Z (i + 1)).1 = (Z i).2
  last : (Z (m - 1)).2 = e

set_option maxHeartbeats 1600000 in
theorem back_any (b o m c : Nat) (Z : Nat → Int × Int) (e : Int) (w : World) (hm : m ≤ 65536) (h0 : 0 < m) (h : RdZ w b o m Z) :
    Calls Try.prog 15 #[.slice (some ⟨b, o, none⟩) m c, .int .i64 e] w fun r w' => ∃ β, r = .returned (.bool β) ∧ (β = true → Back Z m e) ∧ ∃ j, w' = w.drewN j := by
  go_enter Try.func15, Try.ntmps15
  go_wp2
  go_loopw [5] (fun i wr => ∃ k j : Nat, k ≤ m ∧ i = .int .i64 k ∧ wr = w.drewN j ∧ (∀ i, i < k → 0 ≤ (Z i).1 ∧ (Z i).1 ≤ (Z i).2) ∧ ∀ i, i + 1 < k → (Z (i + 1)).1 = (Z i).2) (fun i _ => m - (intOf i).toNat)
  case atStart => exact ⟨0, 0, Nat.zero_le _, rfl, rfl, fun i hi => by omega, fun i hi => by omega⟩
  case round =>
    obtain ⟨k, j, hk, rfl, rfl, hp1, hp2⟩ := hrel
    have HP : Hid _ := And.intro hp1 hp2
    clear hp1 hp2
    by_cases hlt : k < m
    · obtain ⟨c0, c1⟩ := h k hlt
      have HH : Hid _ := h
      clear h
      by_cases hneg : (Z k).1 < 0
      · go_wp2
        go_quiet (fail)
        go_wp2
        go_ret
        exact ⟨false, rfl, by simp, drewTwice _ _ _⟩
      · by_cases hgt : (Z k).2 < (Z k).1
        · go_wp2
          go_quiet (fail)
          go_wp2
          go_ret
          exact ⟨false, rfl, by simp, drewTwice _ _ _⟩
        · by_cases hk0 : 0 < k
          · obtain ⟨d0, d1⟩ := HH.out (k - 1) (by omega)
            by_cases he : (Z k).1 = (Z (k - 1)).2
            · rw [← he] at d1
              have HE : Hid _ := he
              clear he
              go_wp2
              go_quiet (fail)
              go_wp2
              go_quiet (fail)
              go_wp2
              go_roundw
              case rel =>
                refine ⟨k + 1, _, hlt, by go_num, rfl, fun i hi => ?_, fun i hi => ?_⟩
                · by_cases e : i = k
                  · subst e; exact ⟨by omega, by omega⟩
                  · exact HP.out.1 i (by omega)
                · by_cases e : i + 1 = k
                  · subst e; exact HE.out
                  · exact HP.out.2 i (by omega)
              case measure => simp [intOf]; omega
            · go_wp2
              go_quiet (fail)
              go_wp2
              go_quiet (fail)
              go_wp2
              go_ret
              exact ⟨false, rfl, by simp, drewThrice _ _ _ _⟩
          · go_wp2
            go_quiet (fail)
            go_wp2
            go_quiet (fail)
            go_wp2
            go_roundw
            case rel =>
              refine ⟨k + 1, _, hlt, by go_num, rfl, fun i hi => ?_, fun i hi => by omega⟩
              obtain rfl : i = k := by omega
              exact ⟨by omega, by omega⟩
            case measure => simp [intOf]; omega
    · obtain rfl : k = m := by omega
      obtain ⟨c0, c1⟩ := h (k - 1) (by omega)
      clear h
      have hk0 : ¬ k = 0 := by omega
      have hk1 : ¬ (k : Int) = 0 := by omega
      by_cases he : (Z (k - 1)).2 = e
      · rw [he] at c1
        go_wp2
        go_ret
        exact ⟨true, by simp, fun _ => ⟨HP.out.1, HP.out.2, he⟩, _, rfl⟩
      · go_wp2
        go_ret
        exact ⟨false, by simp [he, hk0], by simp, _, rfl⟩
end Go.Proofs.Qxb6608761a
