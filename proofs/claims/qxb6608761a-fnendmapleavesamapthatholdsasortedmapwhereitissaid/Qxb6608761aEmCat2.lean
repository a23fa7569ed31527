import Derived.Test.Qxb6608761aEmCat
namespace Go.Proofs.Qxb6608761a
open Go.RowKit Go.Sort

set_option maxRecDepth 20000 in
set_option maxHeartbeats 3200000 in
theorem concat_any (base : Nat) (p : Option Addr) (n : Nat) (f : Nat → Nat) (tb m d : Nat) (T : Nat → Nat × Nat) (w : World) (hn : n ≤ 1048576) (hp : BB w base p n f) (hm : m ≤ 65536)
    (hT : w.heap[tb]? = some (.cells (rowS m T) 47 (0, 0))) (hfit : Fits n m T) (hsum : (cat f T m).length ≤ n) :
    Calls Try.prog 22 #[.slice p n n, .slice (some ⟨tb, 0, none⟩) m d] w fun r w' => r = .returned (.slice (some ⟨w.heap.size, 0, none⟩) (cat f T m).length n) ∧ Cat f T n m w.heap.size w w' := by
  have hmk := makeB 0 n (Nat.zero_le _) hn
  have hmk' : ∀ w : World, Sem.run Try.prog (Instr.makeSlice 38 (.int .i64 0) (.int .i64 n)) w = _ := hmk
  clear hmk
  go_enter Try.func22, Try.ntmps22
  go_wp2
  clear hmk'
  go_loopw [5, 6] (fun v i wr => ∃ k : Nat, k ≤ m ∧ v = .slice (some ⟨w.heap.size, 0, none⟩) (cat f T k).length n ∧ i = .int .i64 k ∧ Cat f T n k w.heap.size w wr) (fun _ i _ => m - (intOf i).toNat)
  case atStart => exact ⟨0, Nat.zero_le _, by simp [cat_zero], rfl, below_box _ _, _, heap_alloc_new w _, fun i hi => by simp [cat_zero] at hi⟩
  case round =>
    obtain ⟨k, hk, rfl, rfl, hC⟩ := hrel
    by_cases hlt : k < m
    · obtain ⟨F, hF, hc⟩ := hC.blk
      have hb := hC.below
      have hTr : wr.heap[tb]? = some (.cells (rowS m T) 47 (0, 0)) := by rw [hb.block tb (blk_lt hT)]; exact hT
      have c0 : wr.cell? ⟨tb, k * 2, none⟩ = some (.int .i64 ((T k).1 : Int)) := by rw [cell_blk hTr, Nat.mul_comm]; exact rowS_fst T hlt
      have c1 : wr.cell? ⟨tb, k * 2 + 1, none⟩ = some (.int .i64 ((T k).2 : Int)) := by rw [cell_blk hTr, Nat.mul_comm]; exact rowS_snd T hlt
      obtain ⟨f1, f2⟩ := hfit k hlt
      have hpr : BB wr base p n f := hp.below hb
      have hl1 : (cat f T k).length + ((T k).2 - (T k).1) ≤ n := by
        have := cat_le f T (k + 1) m hlt
        rw [cat_succ, List.length_append, seg_length] at this
        omega
      obtain ⟨S, hS⟩ : ∃ S, S = (T k).1 := ⟨_, rfl⟩
      obtain ⟨E, hE⟩ : ∃ E, E = (T k).2 := ⟨_, rfl⟩
      obtain ⟨L, hL⟩ : ∃ L, L = (cat f T k).length := ⟨_, rfl⟩
      have hnx := Cat.next (f := f) (T := T) hb hF hc (Nat.le_refl _)
      rw [← hS, ← hE, ← hL] at hnx
      rw [← hS] at c0; rw [← hE] at c1; rw [← hS, ← hE] at f1; rw [← hE] at f2; rw [← hS, ← hE, ← hL] at hl1
      have HL : Hid ((cat f T (k + 1)).length = L + (E - S)) := show _ = _ by rw [cat_succ, List.length_append, seg_length, ← hS, ← hE, ← hL]
      have HR : ∀ sp, (0 < E - S → ∃ x, p = some x ∧ sp = some (x.add S)) → (sp = none → E - S = 0 ∧ n - S = 0) → ∃ W1, Sem.run Try.prog (Builtin.append_ #[38, 38] 38 #[.slice (some ⟨w.heap.size, 0, none⟩) L n, .slice sp (E - S) (n - S)]) wr.drew = .ok (.slice (some ⟨w.heap.size, 0, none⟩) (L + (E - S)) n) W1 ∧ Cat f T n (k + 1) w.heap.size w W1 :=
        fun sp h1 h2 => ⟨_, appendB wr.drew w.heap.size n L (E - S) F (fun i => f (S + i)) sp (n - S) 38 hF hn hl1 (fun i hi => by
          obtain ⟨x, hx, hsp⟩ := h1 (by omega)
          obtain ⟨y, hy, hcc⟩ := hpr.rd (S + i) (by omega)
          rw [hx] at hy; cases hy
          refine ⟨_, hsp, ?_⟩
          show wr.cell? _ = _
          rw [← hcc]
          congr 1
          rcases hp with ⟨hpp, _⟩ | ⟨b', hpp, _⟩
          · rw [hpp] at hx; cases hx
          · rw [hpp] at hx; cases hx; simp [Addr.add_lit]) h2, hnx⟩
      have HRR : Hid _ := HR
      rw [← hL]
      clear hC hF hc hTr hpr hT hS hE hL hfit hnx hsum HR
      rcases hp with ⟨rfl, hn0⟩ | ⟨b', rfl, _, _⟩
      · obtain ⟨W1, hr, hx⟩ := HRR.out none (fun h => by omega) (fun _ => ⟨by omega, by omega⟩)
        have HQ : Hid _ := hr
        have HX : Hid _ := hx
        clear hr hx
        have HN : Hid _ := hn0
        clear hn0
        clear HRR
        go_wp2
        go_region_law (refine step_append_run rfl (.tmp 16) (.tmp 28) 38 38 rfl _ _ _ (by simp [Act.eval, Act.put]) (by simp [Act.eval, Act.put]) HQ.out ?_)
        all_goals go_wp2
        all_goals go_roundw
        all_goals first | exact ⟨k + 1, hlt, by rw [HL.out], by go_num, HX.out⟩ | (simp [intOf]; omega)
      · by_cases hcs : n = S
        · subst hcs
          obtain rfl : n = E := by omega
          obtain ⟨W1, hr, hx⟩ := HRR.out (some ⟨b', 0, none⟩) (fun h => by omega) (fun h => by cases h)
          have hl := HL.out
          rw [Nat.sub_self, Nat.add_zero] at hr
          rw [Nat.sub_self, Nat.add_zero] at hl
          have HQ : Hid _ := hr
          have HX' : Hid _ := hx
          have HL' : Hid _ := hl
          clear hr hx hl HL HRR
          go_wp2
          go_region_law (refine step_append_run rfl (.tmp 16) (.tmp 28) 38 38 rfl _ _ _ (by simp [Act.eval, Act.put]) (by simp [Act.eval, Act.put]) HQ.out ?_)
          all_goals go_wp2
          all_goals go_roundw
          all_goals first | exact ⟨k + 1, hlt, congrArg (fun l => Value.slice _ l n) HL'.out.symm, by go_num, HX'.out⟩ | (simp [intOf]; omega)
        · obtain ⟨W1, hr, hx⟩ := HRR.out (some ⟨b', S, none⟩) (fun h => ⟨_, rfl, by simp [Addr.add_lit]⟩) (fun h => by cases h)
          have HQ : Hid _ := hr
          have HX : Hid _ := hx
          clear hr hx
          go_wp2
          go_region_law (refine step_append_run rfl (.tmp 16) (.tmp 28) 38 38 rfl _ _ _ (by simp [Act.eval, Act.put]) (by simp [Act.eval, Act.put]) HQ.out ?_)
          all_goals go_wp2
          all_goals go_roundw
          all_goals first | exact ⟨k + 1, hlt, by rw [HL.out], by go_num, HX.out⟩ | (simp [intOf]; omega)
    · obtain rfl : k = m := by omega
      have HC : Hid _ := hC
      clear hC hp hT hfit
      go_wp2
      go_ret
      exact ⟨rfl, HC.out⟩
end Go.Proofs.Qxb6608761a
