import Derived.Test.Qxb6613595aFmtOrCk2
namespace Go.Proofs.Qxb6613595aFmt
open Go.RowKit Go.Maps Go.Extern.Stop Go.Stop Go.Extern
attribute [local go_sem ↓] Go.wp_at_zero Go.wp_at_succ
set_option linter.unusedVariables false

section
variable {P : Program} {w w' : World} {ops : Array Oper} {rest : List Oper} {o : Oper} {a : Act} {Q : Exit → Act → World → Prop}
/-- A builtin append whose run is known. -/
theorem wpList_append_run (hgd : o.guard = none) (s x : Operand) (t u : TypeId) (ho : o.op = .call { callee := .builtin .append, args := #[s, x], argTypes := #[t, u] }) (v xv v' : Value) (hs : a.eval s = v) (hx : a.eval x = xv)
    (hr : (Builtin.append_ #[t, u] o.type #[v, xv]).run P w = .ok v' w') (h : wpList P ops Q rest (a.put o.dst v') w') : wpList P ops Q (o :: rest) a w := by
  refine wpList_plain hgd fun K hK => ?_
  unfold Oper.wp execOp
  simp only [ho, resolve, invoke, builtin, Sem.run_bind, Sem.run_pure, Result.andThen_ok, List.map_toArray, List.map_cons, List.map_nil, hs, hx, hr]
  exact hK _ _ h
end

theorem app_int {N : Nat} (B : Nat) (v : Value) (xs : List (NI N)) (x : NI N) (W : World) (hB : B ≤ W.heap.size) (hx : W.ownsRow B 3 1 v xs.length (xs.map encI)) (hl : xs.length ≤ 1048576) :
    ∃ v' W', (Builtin.append_ #[45, 45] 45 #[v, .slice (some ⟨W.heap.size, 0, none⟩) 1 1]).run Tryf.prog (W.alloc (.cells #[.int .i64 (x.1 : Nat)] 3)) = .ok v' W' ∧ W'.ownsRow B 3 1 v' (xs ++ [x]).length ((xs ++ [x]).map encI) ∧ FrA v.ownBlock W W' := by
  obtain ⟨i, i1, i2, i3, i4⟩ := info_parts i3
  obtain ⟨W1, hW1⟩ : ∃ W1, W.alloc (.cells #[.int .i64 (x.1 : Nat)] 3) = W1 := ⟨_, rfl⟩
  have z1 : W1.heap.size = W.heap.size + 1 := by rw [← hW1]; simp
  have b1 : Below W.heap.size W W1 := by rw [← hW1]; exact (Below.refl _ W).alloc (Nat.le_refl _) _
  have c1 : W1.heap[W.heap.size]? = some (.cells #[.int .i64 (x.1 : Nat)] 3 (0, 0)) := by rw [← hW1]; exact heap_alloc_new W _
  have hx1 : W1.ownsRow B 3 1 v xs.length (xs.map encI) := by rw [← hW1]; exact hx.alloc _
  rw [hW1]
  clear hW1
  obtain ⟨v', W', hr, ho, hg, _, _⟩ := run_append_own_at (P := Tryf.prog) W1 B 45 45 3 i _ 1 8 Tryf.underlying45 i1 i2 i3 i4 rfl (by decide) v xs.length (xs.map encI) hx1 ⟨W.heap.size, 0, none⟩ 1 1 [.int .i64 (x.1 : Nat)] rfl
    (fun j u hj => by
      rw [Addr.add_lit, cell_blk c1]
      simpa using hj) (by simp [Value.oneCell']) (by unfold maxLen; omega) (by omega) (by omega)
  refine ⟨v', W', hr, by simpa [encI] using ho, hg.os.trans b1.os, hg.tape.trans b1.tape, hg.output.trans b1.output, Nat.le_trans b1.size hg.size, fun b hb hne => (hg.block b (by omega) hne).trans (b1.block b hb)⟩

set_option maxRecDepth 20000 in
set_option maxHeartbeats 32000000 in
theorem check_any (F : Interp) (TT : TxtOk F) (evB N C a0 a1 : Nat) (ev : Nat → Ev) (w : World) (hF : F.answers w.tape) (hE : RdEv w.heap.size w evB N ev) (hN : N ≤ 4098) (hM : sumE ev N ≤ 1000000) (hLn : Ln N ev) (h0 : a0 < N) (h1 : a1 < N) (hne : a0 ≠ a1) (hh : (ev a0).host = (ev a1).host) (hg : getE (ev a0).E (ev a0).ne (ev a0).host = getE (ev a1).E (ev a1).ne (ev a1).host) :
    Calls Tryf.prog 10 #[.slice (some ⟨evB, 0, none⟩) N C] w fun e w' => Below w.heap.size w w' ∧ ∃ b, e = .returned (.tuple #[.pointer none, .slice none 0 0, .iface 79 (.pointer (some ⟨b, 0, none⟩))]) := by
  have H16 : Hid (Calls Tryf.prog 16 #[.slice (some ⟨evB, 0, none⟩) N C] w fun e w' => Hid (Below w.heap.size w w') ∧ ∃ D : IxD, e = .returned (.pointer (some ⟨D.A.x, 0, none⟩)) ∧ Hid (Idx w'.heap.size evB N C ev D w')) := index_any evB N C ev w hE hN hM
  have HT : Hid (TxtOk F ∧ F.answers w.tape ∧ Ln N ev ∧ (ev a0).host = (ev a1).host ∧ getE (ev a0).E (ev a0).ne (ev a0).host = getE (ev a1).E (ev a1).ne (ev a1).host) := ⟨TT, hF, hLn, hh, hg⟩
  have hmk := fun W : World => make1 Tryf.underlying33 i9 rfl (by omega) N (by omega) W
  have HM : Hid _ := hmk
  clear TT hF hE hLn hh hg hmk
  go_enter Tryf.func10, Tryf.ntmps10
  go_wp2_with (go_at_call 16; refine H16.out.mono ?_; rintro e W1 ⟨HB1, D, rfl, HI1⟩; have hm1 := HM.out (W1.alloc (Obj.cells #[Value.pointer (some ⟨D.A.x, 0, none⟩)] 44)))
  obtain ⟨W2, hW2⟩ : ∃ W2, (W1.alloc (Obj.cells #[Value.pointer (some ⟨D.A.x, 0, none⟩)] 44)).alloc (Obj.cells (mkR N fun x => Value.string { data := #[] }) 9) = W2 := ⟨_, rfl⟩
  have HS : Hid (Below W1.heap.size W1 W2 ∧ W2.heap[W1.heap.size]? = some (.cells #[.pointer (some ⟨D.A.x, 0, none⟩)] 44 (0, 0)) ∧ Row W2 (W1.heap.size + 1) N 9 (fun _ => .string ⟨#[]⟩)) := by
    have a := a2 W1 (Obj.cells #[Value.pointer (some ⟨D.A.x, 0, none⟩)] 44) (Obj.cells (mkR N fun x => Value.string { data := #[] }) 9)
    rw [← hW2]
    exact ⟨⟨a.1.os, a.1.tape, a.1.output, a.1.size, a.1.block⟩, a.2.1, a.2.2⟩
  rw [hW2]
  clear hm1 hW2 HM H16
  have hw1 : w.heap.size ≤ W1.heap.size := HB1.out.size
  have HK : Hid (∀ W' : World, Below W1.heap.size W1 W' → Idx W1.heap.size evB N C ev D W' ∧ F.answers W'.tape ∧ Below w.heap.size w W') := fun W' h => ⟨HI1.out.below h, by rw [h.tape, HB1.out.tape]; exact HT.out.2.1, HB1.out.trans (h.mono hw1)⟩
  have HBD : Hid (Bad D a0) := .inr (HI1.out.pair a0 a1 h0 h1 hne (HI1.out.hsE a0 a1 h0 h1 HT.out.2.2.2.1) (by rw [HI1.out.ownE a0 h0, HI1.out.ownE a1 h1]; exact HT.out.2.2.2.2))
  clear HI1 HB1
  obtain ⟨B, hB⟩ : ∃ B, W1.heap.size = B := ⟨_, rfl⟩
  rw [hB] at hw1 HK HS ⊢
  clear hB
  go_loopg [7, 21] N (fun k s7 s21 wr => ∃ (p : Nat) (q : Option Addr) (n cp : Nat), s21 = .int .i64 (p : Int) ∧ s7 = .slice q n cp ∧ p ≤ N ∧ N - p ≤ k ∧ n ≤ p ∧ Hid (∃ (fs : Nat → ByteArray) (xs : List (NI N)), Below B W1 wr ∧ wr.heap[B]? = some (.cells #[.pointer (some ⟨D.A.x, 0, none⟩)] 44 (0, 0)) ∧ Row wr (B + 1) N 9 (fun k => .string (fs k)) ∧ (∀ k, k < p → Bad D k → NEs (fs k)) ∧ wr.ownsRow B 3 1 (.slice q n cp) xs.length (xs.map encI) ∧ xs.length = n ∧ (∀ x ∈ xs, ¬ Bad D x.1)))
  case atStart => exact ⟨0, _, _, _, rfl, rfl, by omega, by omega, by omega, _, [], HS.out.1, HS.out.2.1, HS.out.2.2, fun k hk => absurd hk (Nat.not_lt_zero _), ⟨rfl, .inl ⟨rfl, rfl⟩⟩, rfl, fun x hx => by cases hx⟩
  case round =>
    obtain ⟨p, q, n, cp, rfl, rfl, g1, g2, g3, hR⟩ := hrel
    obtain ⟨fs, xs, r1, r2, r3, r4, r5, r6, r7⟩ := hR.out
    obtain ⟨I1, A1, b1⟩ := HK.out _ r1
    by_cases hlt : p < N
    · have k5 : wr.cell? ⟨B, 0, none⟩ = some (.pointer (some ⟨D.A.x, 0, none⟩)) := cell_blk r2 0
      have hBw : B < wr.heap.size := blk_lt r2
      have H17 : Hid (Calls Tryf.prog 17 #[.pointer (some ⟨D.A.x, 0, none⟩), .int .i64 (p : Int)] wr fun e w' => ∃ s, e = .returned (.string s) ∧ w'.cell? ⟨B + 1, p, none⟩ = some (.string (fs p)) ∧ w'.frozen? ⟨B + 1, p, none⟩ = false ∧ Hid (Below wr.heap.size wr w' ∧ (Bad D p → NEs s))) := by
        refine (own_any F HT.out.1 B evB N C ev D wr A1 I1 (by omega) HT.out.2.2.1 p hlt).mono ?_
        rintro e w' ⟨m1, s, rfl, m2⟩
        have r3' := r3.below m1 r3.lt
        exact ⟨s, rfl, r3'.cell p hlt, r3'.free p, m1, m2⟩
      have i1 : (p : Int) < (N : Int) := by omega
      have HN : Hid (∀ (s : ByteArray) (W3 W4 : World), W3.setCell ⟨B + 1, p, none⟩ (.string s) = W4 → Hid (Below wr.heap.size wr W3 ∧ (Bad D p → NEs s)) → ∃ (fs' : Nat → ByteArray), Below B W1 W4 ∧ W4.heap[B]? = some (.cells #[.pointer (some ⟨D.A.x, 0, none⟩)] 44 (0, 0)) ∧ Row W4 (B + 1) N 9 (fun k => .string (fs' k)) ∧ (∀ k, k < p + 1 → Bad D k → NEs (fs' k)) ∧ W4.ownsRow B 3 1 (.slice q n cp) xs.length (xs.map encI)) := by
        rintro s W3 W4 rfl hh
        obtain ⟨m1, m2⟩ := hh.out
        have so : ∀ b, b ≠ B + 1 → (W3.setCell ⟨B + 1, p, none⟩ (.string s)).heap[b]? = W3.heap[b]? := fun b hb => Below.heap_setCell W3 _ _ b hb
        have bb : Below B W1 W3 := r1.trans (m1.mono (by omega))
        have h := (r3.below m1 r3.lt).set p (.string s)
        refine ⟨fun k => if k = p then s else fs k, ⟨bb.os, bb.tape, bb.output, by have := bb.size; simpa [World.setCell] using this, fun k hk => (so k (by omega)).trans (bb.block k hk)⟩, (so B (by omega)).trans ((m1.block B hBw).trans r2), ?_, fun k hk hkb => ?_, own_keep r5 fun b c hb hc _ => (so b (fun e => ?_)).trans ((m1.block b (blk_lt hc)).trans hc)⟩
        · have e : upd (fun k => Value.string (fs k)) p (.string s) = (fun k => Value.string (if k = p then s else fs k)) := by
            funext k
            unfold upd
            split <;> rfl
          rw [e] at h
          exact h
        · by_cases hkp : k = p
          · simp only; rw [if_pos hkp]; exact m2 (hkp ▸ hkb)
          · simp only; rw [if_neg hkp]; exact r4 k (by omega) hkb
        · have h2 := r3
          unfold Row at h2
          rw [e, h2] at hc
          exact tagne hc (by decide)
      have HX : Hid (xs.length = n ∧ ∀ x ∈ xs, ¬ Bad D x.1) := ⟨r6, r7⟩
      clear hR r1 r2 r3 r4 r5 r6 r7 I1 A1 b1
      go_upto_region 9 with (go_at_call 17; refine H17.out.mono ?_; rintro e W3 ⟨s, rfl, y1, y2, HW3⟩)
      · rename_i hse
        obtain ⟨W4, hW4⟩ : ∃ W4, W3.setCell ⟨B + 1, p, none⟩ (.string s) = W4 := ⟨_, rfl⟩
        obtain ⟨fs', n1, n2, n3, n4, n5⟩ := HN.out s W3 W4 hW4 HW3
        have hnb : ¬ Bad D p := fun hb => by
          have := tl_ne s (HW3.out.2 hb)
          rw [this] at hse
          cases hse
        obtain ⟨v', W5, hr, ho, hfr⟩ := app_int B (.slice q n cp) xs ⟨p, hlt⟩ W4 (Nat.le_of_lt (blk_lt n2)) n5 (by have := HX.out.1; omega)
        obtain ⟨q', cp', rfl⟩ := own_shape ho
        have n3l := n3.lt
        have tag : ∀ {b : Nat} {o : Obj}, W4.heap[b]? = some o → (∀ c, o ≠ .cells c 3 (0, 0)) → some b ≠ Value.ownBlock (.slice q n cp) := fun {b o} h1 h2 e => by
          obtain ⟨_, c, h3⟩ := own_tag n5 e.symm
          rw [h1] at h3
          exact h2 c (Option.some.inj h3)
        have HE : Hid (∃ (fs : Nat → ByteArray) (ys : List (NI N)), Below B W1 W5 ∧ W5.heap[B]? = some (.cells #[.pointer (some ⟨D.A.x, 0, none⟩)] 44 (0, 0)) ∧ Row W5 (B + 1) N 9 (fun k => .string (fs k)) ∧ (∀ k, k < p + 1 → Bad D k → NEs (fs k)) ∧ W5.ownsRow B 3 1 (.slice q' (n + 1) cp') ys.length (ys.map encI) ∧ ys.length = n + 1 ∧ (∀ x ∈ ys, ¬ Bad D x.1)) := by
          refine ⟨fs', xs ++ [⟨p, hlt⟩], ⟨hfr.os.trans n1.os, hfr.tape.trans n1.tape, hfr.output.trans n1.output, Nat.le_trans n1.size hfr.size, fun k hk => (hfr.blk k (by have := blk_lt n2; omega) (fun e => by have := (own_tag n5 e.symm).1; omega)).trans (n1.block k hk)⟩, (hfr.blk B (blk_lt n2) (tag n2 (fun c e => by cases e))).trans n2, n3.same (hfr.blk _ n3l (tag n3 (fun c e => by cases e))), n4, by rw [show n + 1 = (xs ++ [(⟨p, hlt⟩ : NI N)]).length by simp [HX.out.1]]; exact ho, by simp [HX.out.1], fun x hx => ?_⟩
          rcases List.mem_append.1 hx with h | h
          · exact HX.out.2 x h
          · simp at h; rw [h]; exact hnb
        have HR : Hid _ := hr
        rw [hW4]
        have hlen : (xs ++ [(⟨p, hlt⟩ : NI N)]).length = n + 1 := by simp [HX.out.1]
        rw [hlen] at HR
        clear hr ho hfr n1 n2 n3 n4 n5 tag n3l hW4 hse
        go_wp2_with (at_builtin; refine wpList_append_run rfl _ _ 45 45 rfl _ _ _ rfl rfl HR.out ?_)
        go_roundg (N - (p + 1))
        case measure => omega
        case rel => exact ⟨p + 1, q', n + 1, cp', by rw [show (p : Int) + 1 = ((p + 1 : Nat) : Int) by omega], rfl, by omega, Nat.le_refl _, by omega, HE⟩
      · obtain ⟨W4, hW4⟩ : ∃ W4, W3.setCell ⟨B + 1, p, none⟩ (.string s) = W4 := ⟨_, rfl⟩
        obtain ⟨fs', n1, n2, n3, n4, n5⟩ := HN.out s W3 W4 hW4 HW3
        rw [hW4]
        go_roundg (N - (p + 1))
        case measure => omega
        case rel => exact ⟨p + 1, q, n, cp, by rw [show (p : Int) + 1 = ((p + 1 : Nat) : Int) by omega], rfl, by omega, Nat.le_refl _, by omega, fs', xs, n1, n2, n3, n4, n5, HX.out.1, HX.out.2⟩
    · obtain rfl : p = N := by omega
      go_upto_region 11 with fail
      exact ck11_any F B evB p C B (B + 1) a0 q n cp fs ev D w wr A1 b1 hw1 I1 (Nat.le_of_lt (blk_lt r2)) r2 r3 (by omega) xs r5 r6 (by omega) r7 h0 HBD.out r4 (by assumption)
end Go.Proofs.Qxb6613595aFmt
