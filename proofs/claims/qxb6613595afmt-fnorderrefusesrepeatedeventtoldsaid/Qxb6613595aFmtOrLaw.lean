import Derived.Test.Qxb6613595aFmtOrZ6
import Derived.Test.Qxb6613595aFmtOrLs
namespace Go.Proofs.Qxb6613595aFmt
open Go.RowKit Go.Maps Go.Extern.Stop Go.Stop Go.Extern
attribute [local go_sem ↓] Go.wp_at_zero Go.wp_at_succ
set_option linter.unusedVariables false

/-- What is asked of antecede.Order. -/
def OrderOk (F : Interp) : Prop := ∀ (evB N C a0 a1 : Nat) (ev : Nat → Ev) (w : World), F.answers w.tape → RdEv w.heap.size w evB N ev → N ≤ 4098 → sumE ev N ≤ 1000000 → Ln N ev → a0 < N → a1 < N → a0 ≠ a1 → (ev a0).host = (ev a1).host → getE (ev a0).E (ev a0).ne (ev a0).host = getE (ev a1).E (ev a1).ne (ev a1).host →
    Calls Tryf.prog 8 #[.slice (some ⟨evB, 0, none⟩) N C] w fun e w' => Below w.heap.size w w' ∧ ∃ b, e = .returned (.tuple #[.slice none 0 0, .iface 79 (.pointer (some ⟨b, 0, none⟩))])

section
variable {P : Program} {w w' : World} {ops : Array Oper} {rest : List Oper} {o : Oper} {a : Act} {Q : Exit → Act → World → Prop}
/-- A builtin append whose run is known. -/
theorem wpList_append_law (hgd : o.guard = none) (s x : Operand) (t u : TypeId) (ho : o.op = .call { callee := .builtin .append, args := #[s, x], argTypes := #[t, u] }) (v xv v' : Value) (hs : a.eval s = v) (hx : a.eval x = xv)
    (hr : (Builtin.append_ #[t, u] o.type #[v, xv]).run P w = .ok v' w') (h : wpList P ops Q rest (a.put o.dst v') w') : wpList P ops Q (o :: rest) a w := by
  refine wpList_plain hgd fun K hK => ?_
  unfold Oper.wp execOp
  simp only [ho, resolve, invoke, builtin, Sem.run_bind, Sem.run_pure, Result.andThen_ok, List.map_toArray, List.map_cons, List.map_nil, hs, hx, hr]
  exact hK _ _ h
end

def mE (j : Nat) : Value := if j % 6 = 1 then .slice none 0 0 else if j % 6 = 3 then .int .i64 0 else .string ⟨#[]⟩
theorem make31 (n : Nat) (hn : n ≤ 4096) (w : World) : ∃ c : Array Value, c.size = (n + 1) * 6 ∧
    Sem.run Tryf.prog (Instr.makeSlice 26 (.int .i64 0) (.int .i64 ((n : Int) + 1))) w = .ok (.slice (some ⟨w.heap.size, 0, none⟩) 0 (n + 1)) (w.alloc (.cells c 31)) := by
  obtain ⟨i, h1, h2, h3, h4⟩ := info_parts i31
  have h := run_make (P := Tryf.prog) w 26 31 i _ Tryf.underlying26 h1 h2 .i64 .i64 0 ((n + 1 : Nat) : Int) (by omega) (by omega) (by rw [h4]; omega) (by omega)
  rw [h3] at h
  simp only [Int.toNat_natCast, Value.cells] at h
  refine ⟨_, ?_, h⟩
  simp [madeCells]

theorem app_ev2 (w : World) (z : Nat → Zv) (q : Option Addr) (m c : Nat) (L : List (Nat × Nat)) (W W1 : World) (j eb : Nat) (hS : Sx w z (.slice q m c) L W) (hm : L.length = m) (hb : Below W.heap.size W W1) (he : Ent (z j) eb W1) (hl : m ≤ 4098) :
    ∃ q' c' W', (Builtin.append_ #[26, 26] 26 #[.slice q m c, .slice (some ⟨W1.heap.size, 0, none⟩) 1 1]).run Tryf.prog (W1.alloc (.cells #[.string (z j).host, .slice (some ⟨eb, 0, none⟩) (z j).hn (z j).hn, .string (z j).text, .int .i64 (z j).line, .string (z j).file, .string (z j).exec] 31)) = .ok (.slice q' (m + 1) c') W' ∧ Sx w z (.slice q' (m + 1) c') (L ++ [(j, eb)]) W' := by
  subst hm
  obtain ⟨v', W', h1, h2⟩ := app_ev w z (.slice q L.length c) L W W1 j eb hS hb he hl
  obtain ⟨q', c', rfl⟩ := own_shape h2.own
  rw [show (L ++ [(j, eb)]).length = L.length + 1 by simp] at h1 h2
  exact ⟨q', c', W', h1, h2⟩

/-- One event is made. -/
theorem ev7 (z : Zv) (W : World) (b o : Nat) (r : RdZ1 W b o z) (h : z.hn = z.cn) (hb : z.hn ≤ 1048576) :
    Calls Tryf.prog 7 #[.agg #[.string z.host, .slice z.hp z.hn z.hc, .slice z.cp z.hn z.cc, .string z.text, .int .i64 z.line, .string z.file, .string z.exec]] W fun e w' => Hid (Below W.heap.size W w') ∧ ∃ eb, e = .returned (.agg #[.string z.host, .slice (some ⟨eb, 0, none⟩) z.hn z.hn, .string z.text, .int .i64 z.line, .string z.file, .string z.exec]) ∧ Hid (Ent z eb w') := by
  refine (zz7_any z z.hn W hb r.hs (by rw [h]; exact r.cs)).mono ?_
  rintro e w' ⟨h1, eb, h2, h3, f, h4, h5⟩
  exact ⟨h1, eb, h2, f, h4, h5⟩

/-- Order is called, and it refuses. -/
theorem ord_any (F : Interp) (HO : OrderOk F) (w : World) (hF : F.answers w.tape) (z : Nat → Zv) (q : Option Addr) (m c : Nat) (L : List (Nat × Nat)) (W : World) (n k a : Nat) (hS : Sx w z (.slice q m c) L W) (hL : L.map Prod.fst = insN k a n) (hk : k < n) (ha : a ≤ n) (h4 : n ≤ 4096) (hG : ∀ i, i < n → Gd (z i)) (hz : 16 * SZ z n ≤ 1048576) :
    Calls Tryf.prog 8 #[.slice q m c] W fun e w' => Hid (Below w.heap.size w w') ∧ ∃ b, e = .returned (.tuple #[.slice none 0 0, .iface 79 (.pointer (some ⟨b, 0, none⟩))]) := by
  obtain ⟨g, C, ev, a0, a1, hv, h1, h2, h3, h5, h6, h7, h8, h9⟩ := fin_any w z _ L W n k a hS hL hk ha hG hz
  rw [hv]
  refine (HO g (n + 1) C a0 a1 ev W (by rw [hS.bel.tape]; exact hF) h1 (by omega) h2 h3 h5 h6 h7 h8 h9).mono ?_
  rintro e w' ⟨k1, b, rfl⟩
  exact ⟨hS.bel.trans (k1.mono hS.bel.size), b, rfl⟩

@[local go_sem] theorem nil37 (W : World) : Sem.run Tryf.prog (binOp .eql 37 (.slice none 0 0) (.slice none 0 0)) W = .ok (.bool true) W := by kernel_rfl

set_option maxRecDepth 20000 in
set_option maxHeartbeats 32000000 in
theorem law_any (F : Interp) (HO : OrderOk F) (q : Option Addr) (n cp : Nat) (z : Nat → Zv) (k a : Int) (w : World) (hF : F.answers w.tape) (hR : RdZ w q n z) (hn : n ≤ 9223372036854775807) :
    Calls Tryf.prog 3 #[.slice q n cp, .int .i64 k, .int .i64 a] w fun e w' => Below w.heap.size w w' ∧ e = .returned (.bool true) := by
  have H4 : Hid (Calls Tryf.prog 4 #[.slice q n cp, .int .i64 k, .int .i64 a] w fun e w' => w' = w ∧ ∃ r, e = .returned (.bool r) ∧ Hid (r = true → ∀ i, i < n → Bz (z i))) := zz4_any q n cp z k a w hR hn
  have HH : Hid (OrderOk F ∧ F.answers w.tape ∧ RdZ w q n z) := ⟨HO, hF, hR⟩
  clear HO hF hR
  go_enter Tryf.func3, Tryf.ntmps3
  go_upto_region 3 with (go_at_call 4; refine H4.out.mono ?_; rintro e W1 ⟨rfl, r, rfl, HB⟩)
  · go_ret
    exact ⟨Below.refl _ _, rfl⟩
  have hr1 : (!r) = false := by assumption
  obtain rfl : r = true := by cases r <;> simp_all
  have HBz : Hid (∀ i, i < n → Bz (z i)) := HB.out rfl
  clear HB H4
  by_cases h4 : n ≤ 4096
  case neg =>
    have i1 : (4096 : Int) < n := by omega
    go_wp2_with fail
    go_ret
    exact ⟨Below.refl _ _, rfl⟩
  have H5 : Hid (Calls Tryf.prog 5 #[.slice q n cp] W1 fun e w' => Hid (Below W1.heap.size W1 w') ∧ ∃ t, e = .returned (.int .i64 t) ∧ Hid (t ≤ 1048576 → 16 * SZ z n ≤ 1048576)) := zz5_any q n cp z W1 HH.out.2.2 h4 HBz.out
  go_upto_region 7 with (go_at_call 5; refine H5.out.mono ?_; rintro e W2 ⟨B2, t, rfl, HT⟩)
  · go_ret
    exact ⟨B2.out, rfl⟩
  have HSZ : Hid (16 * SZ z n ≤ 1048576) := HT.out (by omega)
  clear HT H5
  by_cases hK : 0 ≤ k ∧ k < n ∧ 0 ≤ a ∧ a ≤ n
  case neg =>
    go_upto_region 9 with fail
    all_goals (go_ret; exact ⟨B2.out, rfl⟩)
  obtain ⟨k0, k1, a0, a1⟩ := hK
  obtain ⟨kn, rfl⟩ := Int.eq_ofNat_of_zero_le k0
  obtain ⟨an, rfl⟩ := Int.eq_ofNat_of_zero_le a0
  have k2 : kn < n := by omega
  have a2 : an ≤ n := by omega
  have H6 : Hid (Calls Tryf.prog 6 #[.slice q n cp] W2 fun e w' => Hid (Below W2.heap.size W2 w') ∧ ∃ r, e = .returned (.bool r) ∧ Hid (r = true → ∀ i, i < n → (z i).hn = (z i).cn)) := zz6_any q n cp z W2 (HH.out.2.2.below B2.out) h4 HBz.out
  go_upto_region 11 with (go_at_call 6; refine H6.out.mono ?_; rintro e W3 ⟨B3, r3, rfl, HE⟩)
  all_goals try (go_ret; exact ⟨B2.out.trans (B3.out.mono B2.out.size), rfl⟩)
  have hr3 : (!r3) = false := by assumption
  obtain rfl : r3 = true := by cases r3 <;> simp_all
  have HC : Hid (∀ i, i < n → (z i).hn = (z i).cn) := HE.out rfl
  clear HE H6
  obtain ⟨cs, hcs, hm⟩ := make31 n h4 W3
  have hS : Sx W1 z (.slice (some ⟨W3.heap.size, 0, none⟩) 0 (n + 1)) [] (W3.alloc (.cells cs 31)) := by
    have b3 := B2.out.trans (B3.out.mono B2.out.size)
    refine ⟨b3.alloc b3.size _, ⟨rfl, .inr ⟨W3.heap.size, n + 1, cs, rfl, b3.size, heap_alloc_new _ _, Nat.zero_le _, by unfold maxLen; omega, hcs, ?_⟩⟩, fun x hx => by cases hx⟩
    simp [flatE]
  obtain ⟨W4, hW4⟩ : ∃ W4, W3.alloc (.cells cs 31) = W4 := ⟨_, rfl⟩
  rw [hW4] at hS hm
  have HS : Hid (Sx W1 z (.slice (some ⟨W3.heap.size, 0, none⟩) 0 (n + 1)) [] W4) := hS
  clear hS hW4
  have HZ : Hid (∀ (W : World), Below W1.heap.size W1 W → ∀ j, j < n → ∃ b o, q = some ⟨b, o, none⟩ ∧ RdZ1 W b (o + j * 7) (z j)) := fun W hb j hj => (HH.out.2.2.below hb) j hj
  go_wp2_with fail
  clear hm
  go_loopg [8, 9] n (fun g s8 s9 wr => ∃ (p : Nat) (q' : Option Addr) (m c' : Nat), s9 = .int .i64 (p : Int) ∧ s8 = .slice q' m c' ∧ p ≤ n ∧ n - p ≤ g ∧ m ≤ p + 1 ∧ Hid (∃ L, Sx W1 z (.slice q' m c') L wr ∧ L.map Prod.fst = ins kn an p ∧ L.length = m))
  case atStart => exact ⟨0, _, _, _, rfl, rfl, by omega, by omega, by omega, [], HS.out, rfl, rfl⟩
  case round =>
    obtain ⟨p, q', m, c', rfl, rfl, g1, g2, g3, hh⟩ := hrel
    obtain ⟨L, hS, hL, hm⟩ := hh.out
    by_cases hlt : p < n
    · have hcpy : ∀ (j : Nat), j < n → ∃ b o, q = some ⟨b, o, none⟩ ∧ RdZ1 wr b (o + j * 7) (z j) := fun j hj => HZ.out wr hS.bel j hj
      have i3 : (p : Int) < (n : Int) := by omega
      by_cases hpa : p = an
      · subst hpa
        obtain ⟨b, o, rfl, r⟩ := hcpy kn k2
        have H7 : Hid (RdZ1 wr b (o + kn * 7) (z kn)) := r
        obtain ⟨c0, c1, c2, c3, c4, c5, c6, _, _, _, _, _⟩ := r
        rw [← HC.out kn k2] at c2
        have HX : Hid (Sx W1 z (.slice q' m c') L wr ∧ L.map Prod.fst = ins kn p p ∧ L.length = m) := ⟨hS, hL, hm⟩
        clear hh hS hL hm hcpy
        go_upto_region 18 with (first
          | (go_at_call 7; (refine (ev7 (z kn) wr b (o + kn * 7) H7.out (HC.out kn k2) (HBz.out kn k2).hn).mono ?_; rintro e W5 ⟨B5, eb, rfl, HE5⟩; obtain ⟨q5, c5', W6, hr5, hS6⟩ := app_ev2 W1 z q' m c' L wr W5 kn eb HX.out.1 HX.out.2.2 B5.out HE5.out (by omega); have HR5 : Hid _ := hr5; have HS6 : Hid _ := hS6; clear hr5 hS6))
          | (at_builtin; refine wpList_append_law rfl _ _ 26 26 rfl _ _ _ rfl rfl HR5.out ?_))
        have HM0 : Hid (m = p) := by
          have h := congrArg List.length HX.out.2.1
          rw [List.length_map, ins_len, HX.out.2.2, if_neg (by omega)] at h
          exact h
        obtain ⟨b2, o2, hq, r2⟩ := HZ.out W6 HS6.out.bel p hlt
        injection hq with hq
        injection hq with hq1 hq2
        subst hq1
        subst hq2
        have H72 : Hid (RdZ1 W6 b (o + p * 7) (z p)) := r2
        obtain ⟨d0, d1, d2, d3, d4, d5, d6, _, _, _, _, _⟩ := r2
        rw [← HC.out p hlt] at d2
        clear c0 c1 c2 c3 c4 c5 c6
        go_wp2_with (first
          | (go_at_call 7; refine (ev7 (z p) W6 b (o + p * 7) H72.out (HC.out p hlt) (HBz.out p hlt).hn).mono ?_; rintro e W7 ⟨B7, eb7, rfl, HE7⟩; obtain ⟨q7, c7', W8, hr7, hS8⟩ := app_ev2 W1 z q5 (m + 1) c5' (L ++ [(kn, eb)]) W6 W7 p eb7 HS6.out (by simp [HX.out.2.2]) B7.out HE7.out (by omega); have HR7 : Hid _ := hr7; have HS8 : Hid _ := hS8; clear hr7 hS8)
          | (at_builtin; refine wpList_append_law rfl _ _ 26 26 rfl _ _ _ rfl rfl HR7.out ?_))
        go_roundg (n - (p + 1))
        case measure => omega
        case rel => exact ⟨p + 1, q7, m + 1 + 1, c7', by rw [show (p : Int) + 1 = ((p + 1 : Nat) : Int) by omega], rfl, by omega, Nat.le_refl _, by have := HM0.out; omega, L ++ [(kn, eb)] ++ [(p, eb7)], HS8.out, by simp [ins, HX.out.2.1], by simp [HX.out.2.2]⟩
      · obtain ⟨b, o, rfl, r⟩ := hcpy p hlt
        have H7 : Hid (RdZ1 wr b (o + p * 7) (z p)) := r
        obtain ⟨c0, c1, c2, c3, c4, c5, c6, _, _, _, _, _⟩ := r
        rw [← HC.out p hlt] at c2
        have i4 : ¬ (p : Int) = (an : Int) := by omega
        have HX : Hid (Sx W1 z (.slice q' m c') L wr ∧ L.map Prod.fst = ins kn an p ∧ L.length = m) := ⟨hS, hL, hm⟩
        clear hh hS hL hm hcpy
        go_wp2_with (first
          | (go_at_call 7; refine (ev7 (z p) wr b (o + p * 7) H7.out (HC.out p hlt) (HBz.out p hlt).hn).mono ?_; rintro e W5 ⟨B5, eb, rfl, HE5⟩; obtain ⟨q5, c5', W6, hr5, hS6⟩ := app_ev2 W1 z q' m c' L wr W5 p eb HX.out.1 HX.out.2.2 B5.out HE5.out (by omega); have HR5 : Hid _ := hr5; have HS6 : Hid _ := hS6; clear hr5 hS6)
          | (at_builtin; refine wpList_append_law rfl _ _ 26 26 rfl _ _ _ rfl rfl HR5.out ?_))
        go_roundg (n - (p + 1))
        case measure => omega
        case rel => exact ⟨p + 1, q5, m + 1, c5', by rw [show (p : Int) + 1 = ((p + 1 : Nat) : Int) by omega], rfl, by omega, Nat.le_refl _, by omega, L ++ [(p, eb)], HS6.out, by simp [ins, HX.out.2.1, hpa], by simp [HX.out.2.2]⟩
    · obtain rfl : p = n := by omega
      have HG : Hid (∀ i, i < p → Gd (z i)) := fun i hi => by
        obtain ⟨b, o, _, r⟩ := HH.out.2.2 i hi
        exact ⟨HBz.out i hi, r.lw, fun j hj => r.cb j (by rw [← HC.out i hi]; exact hj)⟩
      have HX : Hid (Sx W1 z (.slice q' m c') L wr ∧ L.map Prod.fst = ins kn an p ∧ L.length = m) := ⟨hS, hL, hm⟩
      by_cases hpa : an = p
      · subst hpa
        obtain ⟨b, o, rfl, r⟩ := HZ.out wr hS.bel kn k2
        have H7 : Hid (RdZ1 wr b (o + kn * 7) (z kn)) := r
        obtain ⟨c0, c1, c2, c3, c4, c5, c6, _, _, _, _, _⟩ := r
        rw [← HC.out kn k2] at c2
        clear hh hS hL hm
        go_upto_region 21 with (first
          | (go_at_call 7; refine (ev7 (z kn) wr b (o + kn * 7) H7.out (HC.out kn k2) (HBz.out kn k2).hn).mono ?_; rintro e W5 ⟨B5, eb, rfl, HE5⟩; obtain ⟨q5, c5', W6, hr5, hS6⟩ := app_ev2 W1 z q' m c' L wr W5 kn eb HX.out.1 HX.out.2.2 B5.out HE5.out (by omega); have HR5 : Hid _ := hr5; have HS6 : Hid _ := hS6; clear hr5 hS6)
          | (at_builtin; refine wpList_append_law rfl _ _ 26 26 rfl _ _ _ rfl rfl HR5.out ?_))
        go_wp2_with (go_at_call 8; refine (ord_any F HH.out.1 W1 HH.out.2.1 z q5 (m + 1) c5' (L ++ [(kn, eb)]) W6 an kn an HS6.out (by simp [insN, HX.out.2.1]) k2 a2 h4 HG.out HSZ.out).mono ?_; rintro e W9 ⟨B9, b9, rfl⟩)
        go_ret
        exact ⟨B9.out, rfl⟩
      · have i4 : ¬ (an : Int) = (p : Int) := by omega
        clear hh hS hL hm
        go_wp2_with (go_at_call 8; refine (ord_any F HH.out.1 W1 HH.out.2.1 z q' m c' L wr p kn an HX.out.1 (by simp [insN, HX.out.2.1, hpa]) k2 a2 h4 HG.out HSZ.out).mono ?_; rintro e W9 ⟨B9, b9, rfl⟩)
        go_ret
        exact ⟨B9.out, rfl⟩
end Go.Proofs.Qxb6613595aFmt
