import Derived.Test.Qxb6608761aEmTail
import Derived.Deep.DeepCutAuto
namespace Go.Proofs.Qxb6608761a
open Go.RowKit Go.Sort


set_option maxRecDepth 20000 in
set_option maxHeartbeats 16000000 in
theorem law_any (p po pi : Option Addr) (N c m1 c1 m2 c2 : Nat) (f : Nat → Nat) (Zo Zi : Nat → Int × Int) (hd ip : Int) (W : World) (hf : ∀ i, i < N → f i < 256) (hp : Rd W p N f) (hnil : p = none → N = 0)
    (ho : 0 < m1 → ∃ b o, po = some ⟨b, o, none⟩ ∧ RdZ W b o m1 Zo) (hi : 0 < m2 → ∃ b o, pi = some ⟨b, o, none⟩ ∧ RdZ W b o m2 Zi) :
    Calls Try.prog 6 #[.slice p N c, .slice po m1 c1, .slice pi m2 c2, .int .i64 hd, .int .i64 ip] W fun r w' => r = .returned (.bool true) ∧ Below W.heap.size W w' := by
  have HP : Hid _ := And.intro hf (And.intro hp (And.intro hnil (And.intro ho hi)))
  clear hf hp hnil ho hi
  have HZ : Hid _ := zz_any p po pi N m1 m2 c c1 c2 hd ip W
  go_enter Try.func6, Try.ntmps6
  go_wp2_with fail
  go_at_call 29
  refine Calls.mono HZ.out ?_
  rintro e w1 ⟨⟨β, rfl⟩, rfl⟩
  clear HZ
  cases β with
  | false =>
    go_wp2
    go_ret
    exact ⟨rfl, Below.refl _ _⟩
  | true =>
    by_cases h1 : 1048576 < N
    · go_wp2
      go_ret
      exact ⟨rfl, Below.refl _ _⟩
    by_cases h2 : 65536 < m1
    · go_wp2
      go_ret
      exact ⟨rfl, Below.refl _ _⟩
    by_cases h3 : 65536 < m2
    · go_wp2
      go_ret
      exact ⟨rfl, Below.refl _ _⟩
    by_cases h4 : 1048576 < N + 16 * m1
    · go_wp2
      go_ret
      exact ⟨rfl, Below.refl _ _⟩
    by_cases h5 : 1048576 < N + 16 * m1 + 16 * m2
    · go_wp2
      go_ret
      exact ⟨rfl, Below.refl _ _⟩
    by_cases h6 : ip < 0
    · go_wp2
      go_ret
      exact ⟨rfl, Below.refl _ _⟩
    by_cases h7 : m1 < 2
    · go_wp2
      go_ret
      exact ⟨rfl, Below.refl _ _⟩
    by_cases h8 : m2 < 2
    · go_wp2
      go_ret
      exact ⟨rfl, Below.refl _ _⟩
    by_cases h9 : hd < 0
    · go_wp2
      go_ret
      exact ⟨rfl, Below.refl _ _⟩
    obtain ⟨H, rfl⟩ : ∃ H : Nat, hd = (H : Int) := ⟨hd.toNat, by omega⟩
    by_cases h10 : m1 ≤ H
    · go_wp2
      go_ret
      exact ⟨rfl, Below.refl _ _⟩
    obtain ⟨hf, hp, hnil, ho, hi⟩ := HP.out
    obtain ⟨bo, oo, rfl, hZo⟩ := ho (by omega)
    obtain ⟨bi, oi, rfl, hZi⟩ := hi (by omega)
    have HC : Hid (∀ W' : World, W'.heap = w1.heap → Calls Try.prog 15 #[.slice (some ⟨bo, oo, none⟩) m1 c1, .int .i64 (N : Int)] W' fun r w' => ∃ β, r = .returned (.bool β) ∧ (β = true → Back Zo m1 N) ∧ ∃ j, w' = W'.drewN j) := fun W' hW => back_any bo oo m1 c1 Zo N W' (by omega) (by omega) (fun i hi => by unfold World.cell?; rw [hW]; exact hZo i hi)
    have HC2 : Hid (∀ (W' : World), Below w1.heap.size w1 W' → Calls Try.prog 15 #[.slice (some ⟨bi, oi, none⟩) m2 c2, .int .i64 (Zi (m2 - 1)).2] W' fun r w' => ∃ β, r = .returned (.bool β) ∧ (β = true → Back Zi m2 (Zi (m2 - 1)).2) ∧ ∃ j, w' = W'.drewN j) := fun W' hW => back_any bi oi m2 c2 Zi _ W' (by omega) (by omega) (hZi.below hW)
    have HI : Hid _ := And.intro hf (And.intro hp (And.intro hnil (And.intro hZo hZi)))
    obtain ⟨zo0, zo1⟩ := hZo H (by omega)
    obtain ⟨zi0, _⟩ := hZi 0 (by omega)
    obtain ⟨_, zi1⟩ := hZi (m2 - 1) (by omega)
    rw [Nat.zero_mul, Nat.add_zero] at zi0
    clear hf hp hnil ho hi hZo hZi HP
    go_wp2_with fail
    go_at_call 15
    refine (HC.out _ (by rfl)).mono ?_
    rintro e w2 ⟨β, rfl, hβ, j, hw2⟩
    clear HC
    have HW : Hid (Below w1.heap.size w1 w2) := by rw [hw2]; exact below_drewN (Below.refl _ _) _
    cases β with
    | false =>
      clear hw2
      go_wp2
      go_ret
      exact ⟨rfl, HW.out⟩
    | true =>
      have HB : Hid _ := hβ rfl
      have yo0 : w2.cell? ⟨bo, oo + H * 2, none⟩ = some (.int .i64 (Zo H).1) := by rw [hw2]; exact zo0
      have yo1 : w2.cell? ⟨bo, oo + H * 2 + 1, none⟩ = some (.int .i64 (Zo H).2) := by rw [hw2]; exact zo1
      have yi0 : w2.cell? ⟨bi, oi, none⟩ = some (.int .i64 (Zi 0).1) := by rw [hw2]; exact zi0
      have yi1 : w2.cell? ⟨bi, oi + (m2 - 1) * 2 + 1, none⟩ = some (.int .i64 (Zi (m2 - 1)).2) := by rw [hw2]; exact zi1
      have lo2 : bo < w2.heap.size := World.block_lt_of_cell? _ _ yo0
      have li2 : bi < w2.heap.size := World.block_lt_of_cell? _ _ yi0
      clear hβ zo0 zo1 zi0 zi1 hw2
      by_cases h11 : (Zi 0).1 < (Zo H).1
      · go_wp2
        go_quiet (fail)
        go_wp2
        go_ret
        exact ⟨rfl, below_drewN (below_tr HW.out (below_box _ _)) _⟩
      by_cases h12 : (Zo H).2 < (Zi (m2 - 1)).2
      · go_wp2
        go_quiet (fail)
        go_wp2
        go_ret
        exact ⟨rfl, below_drewN (below_tr HW.out (below_box _ _)) _⟩
      go_wp2
      go_quiet (fail)
      go_wp2_with fail
      go_at_call 15
      refine (HC2.out _ (by exact below_drewN (below_tr HW.out (below_box _ _)) _)).mono ?_
      rintro e w3 ⟨β, rfl, hβ, j2, hw3⟩
      clear HC2
      have HW3 : Hid (Below w1.heap.size w1 w3) := by rw [hw3]; exact below_drewN (below_drewN (below_tr HW.out (below_box _ _)) _) _
      clear hw3
      cases β with
      | false =>
        go_wp2
        go_ret
        exact ⟨rfl, HW3.out⟩
      | true =>
        -- the arguments as numbers
        obtain ⟨hf, hp, hnil, hZo, hZi⟩ := HI.out
        have hBi : Back Zi m2 (Zi (m2 - 1)).2 := hβ rfl
        have hBo := HB.out
        have hRo := RdN.of hZo hBo
        have hRi := RdN.of hZi hBi
        have hNo := BackN.of hBo
        have hNi := BackN.of hBi
        rw [Int.toNat_natCast] at hNo
        obtain ⟨E, hE⟩ : ∃ E : Nat, (Zi (m2 - 1)).2 = (E : Int) := ⟨(Zi (m2 - 1)).2.toNat, by have := hBi.fst (m2 - 1) (by omega); omega⟩
        rw [hE, Int.toNat_natCast] at hNi
        obtain ⟨So, hSo⟩ : ∃ So : Nat → Nat × Nat, So = fun i => ((Zo i).1.toNat, (Zo i).2.toNat) := ⟨_, rfl⟩
        obtain ⟨Si, hSi⟩ : ∃ Si : Nat → Nat × Nat, Si = fun i => ((Zi i).1.toNat, (Zi i).2.toNat) := ⟨_, rfl⟩
        rw [← hSo] at hRo hNo
        rw [← hSi] at hRi hNi
        have g1 : (So H).1 ≤ (Si 0).1 := by rw [hSo, hSi]; simp only; omega
        have g2 : E ≤ (So H).2 := by rw [hSo]; simp only; omega
        have hEN : E ≤ N := Nat.le_trans g2 (hNo.le H (by omega))
        have hst : (Si 0).1 ≤ E := Nat.le_trans (Nat.le_trans (hNi.fst 0 (by omega)) (hNi.le 0 (by omega))) (Nat.le_refl _)
        have hq1 : ¬ (Zo H).2 < (E : Int) := by omega
        have hq2 : decide ((Zo H).2 < (E : Int)) = false := by simp; omega
        simp only [hE]
        have HN : Hid _ := And.intro hRo (And.intro hRi (And.intro hNo hNi))
        have HCL : Hid (∀ (q : Option Addr) (d : Nat) (W' : World), Rd W' q N f → (q = none → N = 0) → Calls Try.prog 16 #[.slice q N d] W' fun r w' => ∃ p', r = .returned (.slice p' N N) ∧ BB w' W'.heap.size p' N f ∧ Below W'.heap.size W' w') := fun q d W' h1 h2 => clone_any q N d f W' (by omega) h1 h2
        have HF : Hid _ := And.intro hf (And.intro hp hnil)
        clear hf hp hnil hZo hZi hBi hBo hRo hRi hNo hNi HI HB hβ yo0 yo1 yi0 yi1 lo2 li2 HW hSo hSi h11 h12 hE
        go_wp2_with fail
        clear hq1 hq2
        go_at_call 16
        refine (HCL.out p c _ (HF.out.2.1.below HW3.out) HF.out.2.2).mono ?_
        rintro e w4 ⟨p1, rfl, hb4, hw4⟩
        have H4 : Hid _ := And.intro hb4 hw4
        clear hb4 hw4
        go_wp2_with fail
        go_at_call 16
        refine (HCL.out p1 N _ H4.out.1.rd (fun h => by rcases H4.out.1 with ⟨_, h2⟩ | ⟨b, h2, _⟩; (exact h2); (rw [h] at h2; cases h2))).mono ?_
        rintro e w5 ⟨p2, rfl, hb5, hw5⟩
        have HK : Hid (Kw w1 p1 p2 N f f w5) := ⟨below_tr (below_tr HW3.out H4.out.2) hw5, (H4.out.1.mono HW3.out.size).below hw5, hb5.mono (Nat.le_trans HW3.out.size H4.out.2.size), fun x y hx hy => by
          rcases H4.out.1 with ⟨h, _⟩ | ⟨b, h, _, h3⟩
          · rw [hx] at h; cases h
          · rw [hx] at h; cases h
            rcases hb5 with ⟨h, _⟩ | ⟨b', h, h4, _⟩
            · rw [hy] at h; cases h
            · rw [hy] at h; cases h
              have := blk_lt h3
              simp only; omega⟩
        clear hb5 hw5 HCL H4 HW3
        go_wp2_with fail
        go_at_call 17
        refine (new_any w5 ip).mono ?_
        rintro e w6 ⟨rfl, hm6, hw6⟩
        obtain ⟨oB, hoB⟩ : ∃ oB, oB = w5.heap.size := ⟨_, rfl⟩
        have HM6 : Hid (Mo w1.heap.size oB [] 0 [] ip (.slice none 0 0) (.slice none 0 0) (.slice none 0 0) (.slice none 0 0) w6) := by rw [hoB]; exact hm6.mono HK.out.low.size
        have HK6 : Hid (Kw w1 p1 p2 N f f w6) := HK.out.below hw6
        rw [← hoB]
        have zo : w6.cell? ⟨bo, oo, none⟩ = some (.int .i64 ((So 0).1 : Int)) := by have h := ((HN.out.1.below HK6.out.low) 0 (by omega)).1; rw [Nat.zero_mul, Nat.add_zero] at h; exact h
        clear hm6 hw6 HK hoB
        go_wp2_with fail
        go_at_call 18
        refine (pend_any w1.heap.size oB [] 0 [] ip _ _ _ _ w6 HM6.out (So 0).1 (by omega) HK6.out.low.size (fun _ => False)).mono ?_
        rintro e w7 ⟨rfl, ⟨pv7, hm7⟩, hf7⟩
        have HM7 : Hid _ := hm7
        have HK7 : Hid (Kw w1 p1 p2 N f f w7) := HK6.out.fr hf7
        clear hm7 hf7 HM6 HK6 zo
        go_wp2
        go_loopw [16] (fun i wr => ∃ (k : Nat) (ov : Value), k ≤ H + 1 ∧ i = .int .i64 k ∧ Mo w1.heap.size oB (entsOf So 1 0 k) 1 (pendL (So 0).1 0 0 0 0) ip ov pv7 (.slice none 0 0) (.slice none 0 0) wr ∧ Kw w1 p1 p2 N f f wr) (fun i _ => H + 1 - (intOf i).toNat)
        case atStart => exact ⟨0, _, by omega, rfl, HM7.out, HK7.out⟩
        case round =>
          obtain ⟨k, ov, hk, rfl, hm, hkw⟩ := hrel
          by_cases hlt : k ≤ H
          · obtain ⟨c0, c1⟩ := (HN.out.1.below hkw.low) k (by omega)
            have HO : Hid (∀ W' : World, Below wr.heap.size wr W' → Calls Try.prog 19 #[.pointer (some ⟨oB, 0, none⟩), .int .i64 ((So k).1 : Int), .int .i64 ((So k).2 : Int), .int .i64 1] W' fun r w' => r = .returned (.tuple #[]) ∧ Hid ((∃ ov', Mo w1.heap.size oB (entsOf So 1 0 (k + 1)) 1 (pendL (So 0).1 0 0 0 0) ip ov' pv7 (.slice none 0 0) (.slice none 0 0) w') ∧ Kw w1 p1 p2 N f f w')) := fun W' hW => by
              refine (open_any w1.heap.size oB _ 1 _ ip ov pv7 _ _ W' (hm.below hW) (So k).1 (So k).2 1 (by rw [entsOf_length]; omega) (Nat.le_trans hkw.low.size hW.size) (fun _ => False)).mono ?_
              rintro r w' ⟨h1, h2, h3⟩
              rw [entsOf_snoc So 1 0 k (Nat.zero_le _)]
              exact ⟨h1, h2, (hkw.below hW).fr h3⟩
            clear hm hkw HM7 HK7
            go_wp2_with fail
            go_region_with (go_at_call 19; refine (HO.out _ (by first | exact Below.refl _ _ | exact (Below.refl _ _).drew | exact below_drewN (Below.refl _ _) _)).mono ?_; rintro e w9 ⟨rfl, HR9⟩)
            all_goals
              clear HO
              go_wp2
              go_roundw
              case rel =>
                obtain ⟨⟨ov', h1⟩, h2⟩ := HR9.out
                exact ⟨k + 1, ov', by omega, by go_num, h1, h2⟩
              case measure => simp [intOf]; omega
          · obtain rfl : k = H + 1 := by omega
            have HM8 : Hid _ := hm
            have HK8 : Hid _ := hkw
            have zi : wr.cell? ⟨bi, oi, none⟩ = some (.int .i64 ((Si 0).1 : Int)) := by have h := ((HN.out.2.1.below hkw.low) 0 (by omega)).1; rw [Nat.zero_mul, Nat.add_zero] at h; exact h
            clear hm hkw HM7 HK7
            go_wp2_with fail
            go_at_call 18
            refine (pend_any w1.heap.size oB _ 1 _ ip ov pv7 _ _ wr HM8.out (Si 0).1 (by omega) HK8.out.low.size (fun _ => False)).mono ?_
            rintro e w8 ⟨rfl, ⟨pv8, hm8⟩, hf8⟩
            have HM9 : Hid _ := hm8
            have HK9 : Hid (Kw w1 p1 p2 N f f w8) := HK8.out.fr hf8
            clear hm8 hf8 HM8 HK8 zi
            go_wp2
            go_loopw [17] (fun i wr => ∃ (k : Nat) (ov : Value), k ≤ m2 ∧ i = .int .i64 k ∧ Mo w1.heap.size oB (entsOf So 1 0 (H + 1) ++ entsOf Si 2 0 k) 2 (pendL (So 0).1 0 0 0 0 ++ pendL (Si 0).1 0 0 0 0) ip ov pv8 (.slice none 0 0) (.slice none 0 0) wr ∧ Kw w1 p1 p2 N f f wr) (fun i _ => m2 - (intOf i).toNat)
            case atStart => exact ⟨0, _, by omega, rfl, by simpa [entsOf, seg] using HM9.out, HK9.out⟩
            case round =>
              obtain ⟨k, ov, hk, rfl, hm, hkw⟩ := hrel
              by_cases hlt : k < m2
              · obtain ⟨c0, c1⟩ := (HN.out.2.1.below hkw.low) k (by omega)
                have HO : Hid (∀ W' : World, Below wr.heap.size wr W' → Calls Try.prog 19 #[.pointer (some ⟨oB, 0, none⟩), .int .i64 ((Si k).1 : Int), .int .i64 ((Si k).2 : Int), .int .i64 2] W' fun r w' => r = .returned (.tuple #[]) ∧ Hid ((∃ ov', Mo w1.heap.size oB (entsOf So 1 0 (H + 1) ++ entsOf Si 2 0 (k + 1)) 2 (pendL (So 0).1 0 0 0 0 ++ pendL (Si 0).1 0 0 0 0) ip ov' pv8 (.slice none 0 0) (.slice none 0 0) w') ∧ Kw w1 p1 p2 N f f w')) := fun W' hW => by
                  refine (open_any w1.heap.size oB _ 2 _ ip ov pv8 _ _ W' (hm.below hW) (Si k).1 (Si k).2 2 (by rw [List.length_append, entsOf_length, entsOf_length]; omega) (Nat.le_trans hkw.low.size hW.size) (fun _ => False)).mono ?_
                  rintro r w' ⟨h1, h2, h3⟩
                  rw [entsOf_snoc Si 2 0 k (Nat.zero_le _), ← List.append_assoc]
                  exact ⟨h1, h2, (hkw.below hW).fr h3⟩
                clear hm hkw HM9 HK9
                go_wp2_with fail
                go_region_with (go_at_call 19; refine (HO.out _ (by first | exact Below.refl _ _ | exact (Below.refl _ _).drew | exact below_drewN (Below.refl _ _) _)).mono ?_; rintro e w9 ⟨rfl, HR9⟩)
                all_goals
                  clear HO
                  go_wp2
                  go_roundw
                  case rel =>
                    obtain ⟨⟨ov', h1⟩, h2⟩ := HR9.out
                    exact ⟨k + 1, ov', by omega, by go_num, h1, h2⟩
                  case measure => simp [intOf]; omega
              · obtain rfl : k = m2 := by omega
                have HM8 : Hid _ := hm
                have HK8 : Hid _ := hkw
                clear hm hkw HM9 HK9
                go_upto_region 42 with fail
                go_cut [] (fun wx => ∃ l', Hid (Inner w1.heap.size oB f p1 N (Si 0).1 (entsOf So 1 0 (H + 1)) (entsOf Si 2 0 k) l' (So 0).1 (wrap64 (ip + 1)) (.slice none 0 0) wr wx))
                case first =>
                  have HIN : Hid (∀ W' : World, Below wr.heap.size wr W' → Calls Try.prog 20 #[.pointer (some ⟨oB, 0, none⟩), .slice p1 E N, markV (H + 1) 1 ip] W' fun r w' => r = .returned (.tuple #[]) ∧ ∃ l', Hid (Inner w1.heap.size oB f p1 N (Si 0).1 (entsOf So 1 0 (H + 1)) (entsOf Si 2 0 k) l' (So 0).1 (wrap64 (ip + 1)) (.slice none 0 0) wr w')) := fun W' hW => by
                    have hkw := HK8.out.below hW
                    obtain ⟨_, _, hNo, hNi⟩ := HN.out
                    have hcat := hNi.cat f (k - 1) (by omega)
                    rw [show k - 1 + 1 = k by omega, hNi.last] at hcat
                    have h := inner_any w1.heap.size oB (entsOf So 1 0 (H + 1)) (entsOf Si 2 0 k) (So 0).1 (Si 0).1 E N ip ov pv8 (.slice none 0 0) p1 f W' (HM8.out.below hW)
                      (fun e => by have := congrArg List.length e; rw [entsOf_length] at this; simp at this; omega) (by rw [entsOf_length]; omega) (by rw [entsOf_length]; omega) hkw.body (by omega) HF.out.1 hEN hst
                      (fun x hx => by obtain ⟨i, _, h2, rfl⟩ := entsOf_mem hx; exact ⟨hNi.ge i h2, hNi.fst i h2, hNi.le i h2, Nat.le_refl _⟩) (by rw [catE_ents]; omega)
                    rw [entsOf_length] at h
                    refine Calls.mono h ?_
                    rintro r w' ⟨h1, l', h2⟩
                    exact ⟨h1, l', h2.of hW HK8.out.low.size⟩
                  have HMK : Hid (∀ W' : World, Calls Try.prog 21 #[.int .i64 ((H : Int) + 1), .int .i64 1, .int .i64 ip] W' fun r w' => r = .returned (markV (H + 1) 1 ip) ∧ Below W'.heap.size W' w') := fun W' => by
                    rw [show (H : Int) + 1 = ((H + 1 : Nat) : Int) by omega]; exact mark_any W' (H + 1) 1 ip
                  have hwr : IntKind.i64.wrap ((H : Int) + 1) = (H : Int) + 1 := by rw [IntKind.wrap_i64]; omega
                  have hbb := HK8.out.body
                  clear HM8 HK8 HN HF
                  rcases hbb with ⟨rfl, hN0⟩ | ⟨b, rfl, _, _⟩
                  · have HN0 : Hid _ := hN0
                    clear hN0
                    go_region_with (first | (go_at_call 21; refine (HMK.out _).mono ?_; rintro e w9 ⟨rfl, hb9⟩) | (go_at_call 20; refine (HIN.out _ (by first | exact below_of hb9 | exact below_ofN hb9 | exact hb9)).mono ?_; rintro e w10 ⟨rfl, l', hI⟩))
                    all_goals (go_wp2_with fail; go_meet; exact ⟨l', hI⟩)
                  · go_region_with (first | (go_at_call 21; refine (HMK.out _).mono ?_; rintro e w9 ⟨rfl, hb9⟩) | (go_at_call 20; refine (HIN.out _ (by first | exact below_of hb9 | exact below_ofN hb9 | exact hb9)).mono ?_; rintro e w10 ⟨rfl, l', hI⟩))
                    all_goals (go_wp2_with fail; go_meet; exact ⟨l', hI⟩)
                case rest =>
                  obtain ⟨l', HI⟩ := hcut
                  obtain ⟨ov9, pv9, sc9, hm9⟩ := HI.out.mo
                  obtain ⟨f1, hf1⟩ : ∃ f1, f1 = mvF f (Si 0).1 (catE f l') := ⟨_, rfl⟩
                  have HK9 : Hid (Kw w1 p1 p2 N f f1 wc) := by rw [hf1]; exact HK8.out.inner HI.out.fr HI.out.body
                  have HPO : Hid _ := And.intro HI.out.perm (And.intro HI.out.order hf1)
                  have hf1b : ∀ i, i < N → f1 i < 256 := by
                    rw [hf1]
                    refine mvF_lt HF.out.1 fun x hx => ?_
                    obtain ⟨j, h1, _, h2⟩ := mem_of_perm_heads HI.out.perm hx
                    have := HN.out.2.2.2.le j h1
                    omega
                  have HF1 : Hid _ := hf1b
                  have HM9 : Hid _ := hm9
                  clear hm9 HI HM8 HK8 hf1 hf1b
                  go_wp2
                  go_loopw [18] (fun i wr => ∃ (k : Nat) (ov : Value), H + 1 ≤ k ∧ k ≤ m1 ∧ i = .int .i64 k ∧ Mo w1.heap.size oB (entsOf So 1 0 k) 1 (pendL (So 0).1 0 0 0 0) (wrap64 (ip + 1)) ov pv9 (.slice none 0 0) sc9 wr ∧ Kw w1 p1 p2 N f f1 wr) (fun i _ => m1 - (intOf i).toNat)
                  case atStart => exact ⟨H + 1, ov9, by omega, by omega, by go_num, HM9.out, HK9.out⟩
                  case round =>
                    rename_i k3 ; obtain ⟨k2, ov2, hk2, hk3, rfl, hm, hkw⟩ := hrel
                    by_cases hlt : k2 < m1
                    · obtain ⟨c0, c1⟩ := (HN.out.1.below hkw.low) k2 (by omega)
                      have HO : Hid (∀ W' : World, Below wr.heap.size wr W' → Calls Try.prog 19 #[.pointer (some ⟨oB, 0, none⟩), .int .i64 ((So k2).1 : Int), .int .i64 ((So k2).2 : Int), .int .i64 1] W' fun r w' => r = .returned (.tuple #[]) ∧ Hid ((∃ ov', Mo w1.heap.size oB (entsOf So 1 0 (k2 + 1)) 1 (pendL (So 0).1 0 0 0 0) (wrap64 (ip + 1)) ov' pv9 (.slice none 0 0) sc9 w') ∧ Kw w1 p1 p2 N f f1 w')) := fun W' hW => by
                        refine (open_any w1.heap.size oB _ 1 _ _ ov2 pv9 _ _ W' (hm.below hW) (So k2).1 (So k2).2 1 (by rw [entsOf_length]; omega) (Nat.le_trans hkw.low.size hW.size) (fun _ => False)).mono ?_
                        rintro r w' ⟨h1, h2, h3⟩
                        rw [entsOf_snoc So 1 0 k2 (Nat.zero_le _)]
                        exact ⟨h1, h2, (hkw.below hW).fr h3⟩
                      clear hm hkw HM9 HK9
                      go_wp2_with fail
                      go_region_with (go_at_call 19; refine (HO.out _ (by first | exact Below.refl _ _ | exact (Below.refl _ _).drew | exact below_drewN (Below.refl _ _) _)).mono ?_; rintro e w9 ⟨rfl, HR9⟩)
                      all_goals
                        clear HO
                        go_wp2
                        go_roundw
                        case rel =>
                          obtain ⟨⟨ov', h1⟩, h2⟩ := HR9.out
                          exact ⟨k2 + 1, ov', by omega, by omega, by go_num, h1, h2⟩
                        case measure => simp [intOf]; omega
                    · obtain rfl : k2 = m1 := by omega
                      have HMK0 : Hid (∀ W' : World, Calls Try.prog 21 #[.int .i64 0, .int .i64 0, .int .i64 ip] W' fun r w' => r = .returned (markV 0 0 ip) ∧ Below W'.heap.size W' w') := fun W' => mark_any W' 0 0 ip
                      have HOU : Hid (∀ W' : World, Below wr.heap.size wr W' → Calls Try.prog 20 #[.pointer (some ⟨oB, 0, none⟩), .slice p1 N N, markV 0 0 ip] W' fun r w' => r = .returned (.tuple #[]) ∧ ∃ L, Hid (Outer w1.heap.size oB f1 N (entsOf So 1 0 k2) L (So 0).1 (wrap64 (ip + 1)) wr w' ∧ Kw w1 p1 p2 N f f1 w')) := fun W' hW => by
                        obtain ⟨_, _, hNo, _⟩ := HN.out
                        refine (outer_any w1.heap.size oB (entsOf So 1 0 k2) (So 0).1 N ip (wrap64 (ip + 1)) ov2 pv9 sc9 p1 f1 W' (hm.below hW) (wrap_ne ip) (fun e => by have := congrArg List.length e; rw [entsOf_length] at this; simp at this; omega) (by rw [entsOf_length]; omega) (hkw.below hW).body (by omega) HF1.out (fun x hx => by obtain ⟨i, _, h2, rfl⟩ := entsOf_mem hx; exact ⟨hNo.fst i h2, hNo.le i h2, Nat.le_refl _⟩) (Nat.le_trans hkw.low.size hW.size)).mono ?_
                        rintro r w' ⟨h1, L, h2⟩
                        exact ⟨h1, L, h2.of hW hkw.low.size, (hkw.below hW).fr h2.fr⟩
                      clear hm hkw HM9 HK9
                      go_wp2_with fail
                      go_at_call 21
                      refine (HMK0.out _).mono ?_
                      rintro e w10 ⟨rfl, hb10⟩
                      go_wp2_with fail
                      go_at_call 20
                      refine (HOU.out _ hb10).mono ?_
                      rintro e wE ⟨rfl, L, HOK⟩
                      clear hb10 HOU HMK0
                      have HCL : Hid (Calls Try.prog 16 #[.slice p2 N N] wE fun r w' => ∃ p', r = .returned (.slice p' N N) ∧ BB w' wE.heap.size p' N f ∧ Below wE.heap.size wE w') := clone_any p2 N N f wE (by omega) HOK.out.2.orig.rd (fun h => by rcases HOK.out.2.orig with ⟨_, h2⟩ | ⟨b, h2, _⟩; (exact h2); (rw [h] at h2; cases h2))
                      go_wp2_with fail
                      go_at_call 16
                      refine Calls.mono HCL.out ?_
                      rintro e w12 ⟨p3, rfl, hb12, hw12⟩
                      have H12 : Hid _ := And.intro hb12 hw12
                      clear hb12 hw12 HCL
                      go_upto_region 49 with fail
                      refine tail_any p N c c1 c2 f ip w1 h1 H bo oo bi oi h6 E So Si g1 g2 hEN hst HF p1 p2 p3 oB k k2 h2 h3 h7 h8 h10 HN l' L f1 HPO HF1 wr wE w12 HOK H12 ?_
                      have e : (law50 Try.f6) = (law50 Try.f6) := rfl
                      conv at e => rhs; whnf
                      rw [e]
                      assumption
end Go.Proofs.Qxb6608761a
