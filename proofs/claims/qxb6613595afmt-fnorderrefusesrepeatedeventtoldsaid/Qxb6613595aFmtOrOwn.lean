import Derived.Test.Qxb6613595aFmtOrOwn1
namespace Go.Proofs.Qxb6613595aFmt
open Go.RowKit Go.Maps Go.Extern.Stop Go.Stop Go.Extern
attribute [local go_sem ↓] Go.wp_at_zero Go.wp_at_succ
set_option linter.unusedVariables false

set_option maxRecDepth 20000 in
set_option maxHeartbeats 16000000 in
theorem own_any (F : Interp) (TT : TxtOk F) (B evB N C : Nat) (ev : Nat → Ev) (D : IxD) (w : World) (hF : F.answers w.tape) (hI : Idx B evB N C ev D w) (hB : B ≤ w.heap.size) (hLn : Ln N ev) (i : Nat) (hi : i < N) :
    Calls Tryf.prog 17 #[.pointer (some ⟨D.A.x, 0, none⟩), .int .i64 (i : Int)] w fun e w' => Below w.heap.size w w' ∧ ∃ s, e = .returned (.string s) ∧ (Bad D i → NEs s) := by
  have HT : Hid (TxtOk F ∧ Ln N ev) := ⟨TT, hLn⟩
  have HI : Hid (Idx B evB N C ev D w) := hI
  have HB : Hid (∀ W' : World, Below w.heap.size w W' → Idx B evB N C ev D W') := fun W' hb => hI.below (hb.mono hB)
  have p0 : w.cell? ⟨D.A.x, 0, none⟩ = some (.slice (some ⟨evB, 0, none⟩) N C) := cell_blk hI.box 0
  have p4 : w.cell? ⟨D.A.x, 4, none⟩ = some (.slice (some ⟨D.A.own, 0, none⟩) N N) := cell_blk hI.box 4
  obtain ⟨po, po2⟩ := hI.own i hi
  obtain ⟨c0, c1, c2, c3, c4, c5⟩ := hI.evs.six i hi
  have hsz := hI.evs.hs i hi
  have i1 : (0 : Int) ≤ (i : Int) := by omega
  have i2 : (i : Int) < (N : Int) := by omega
  have HF : Hid (∀ W' : World, W'.tape = w.tape → F.answers W'.tape) := fun W' h => by rw [h]; exact hF
  clear hI TT hLn hF
  obtain ⟨hs, hs0⟩ : ∃ x, (ev i).host = x := ⟨_, rfl⟩
  obtain ⟨n, hn0⟩ : ∃ x, (ev i).ne = x := ⟨_, rfl⟩
  obtain ⟨eb, heb0⟩ : ∃ x, (ev i).eb = x := ⟨_, rfl⟩
  obtain ⟨tx, htx0⟩ : ∃ x, (ev i).text = x := ⟨_, rfl⟩
  obtain ⟨ln, hln0⟩ : ∃ x, (ev i).line = x := ⟨_, rfl⟩
  obtain ⟨fl, hfl0⟩ : ∃ x, (ev i).file = x := ⟨_, rfl⟩
  obtain ⟨ex, hex0⟩ : ∃ x, (ev i).exec = x := ⟨_, rfl⟩
  obtain ⟨k, hk0⟩ : ∃ x, D.own i = x := ⟨_, rfl⟩
  rw [hs0] at c0 hsz
  rw [hn0, heb0] at c1
  rw [htx0] at c2
  rw [hln0] at c3
  rw [hfl0] at c4
  rw [hex0] at c5
  rw [hk0] at po po2
  have EQ : Hid ((ev i).host = hs ∧ (ev i).ne = n ∧ (ev i).eb = eb ∧ D.own i = k) := ⟨hs0, hn0, heb0, hk0⟩
  clear hs0 hn0 heb0 htx0 hln0 hfl0 hex0 hk0
  go_enter Tryf.func17, Tryf.ntmps17
  go_wp2_with fail
  go_region_held3 (fun w' => w'.cell? ⟨D.A.x, 0, none⟩ = some (.slice (some ⟨evB, 0, none⟩) N C) ∧ w'.cell? ⟨D.A.x, 4, none⟩ = some (.slice (some ⟨D.A.own, 0, none⟩) N N) ∧ w'.cell? ⟨D.A.own, i, none⟩ = some (.int .u64 (k : Int)) ∧ w'.cell? ⟨evB, i * 6, none⟩ = some (.string hs) ∧ w'.cell? ⟨evB, i * 6 + 1, none⟩ = some (.slice (some ⟨eb, 0, none⟩) n n) ∧ w'.cell? ⟨evB, i * 6 + 2, none⟩ = some (.string tx) ∧ w'.cell? ⟨evB, i * 6 + 3, none⟩ = some (.int .i64 ln) ∧ w'.cell? ⟨evB, i * 6 + 4, none⟩ = some (.string fl) ∧ w'.cell? ⟨evB, i * 6 + 5, none⟩ = some (.string ex))
    (first | go_keep | exact ⟨p0, p4, po, c0, c1, c2, c3, c4, c5⟩ | exact ⟨ca p0 _, ca p4 _, ca po _, ca c0 _, ca c1 _, ca c2 _, ca c3 _, ca c4 _, ca c5 _⟩) (fail)
  obtain ⟨W1, hW1⟩ : ∃ W1, (w.alloc (Obj.cells #[Value.string hs, Value.slice (some ⟨eb, 0, none⟩) n n, Value.string tx, Value.int IntKind.i64 ln, Value.string fl, Value.string ex] 31)).drew = W1 := ⟨_, rfl⟩
  have B1 : Hid (Below w.heap.size w W1) := by rw [← hW1]; exact ((Below.refl _ w).alloc (Nat.le_refl _) _).drew
  have hbx : W1.heap[w.heap.size]? = some (.cells #[Value.string hs, Value.slice (some ⟨eb, 0, none⟩) n n, Value.string tx, Value.int IntKind.i64 ln, Value.string fl, Value.string ex] 31 (0, 0)) := by rw [← hW1]; exact heap_alloc_new w _
  have q0 : W1.cell? ⟨w.heap.size, 0, none⟩ = some (.string hs) := cell_blk hbx 0
  have q1 : W1.cell? ⟨w.heap.size, 1, none⟩ = some (.slice (some ⟨eb, 0, none⟩) n n) := cell_blk hbx 1
  have hwl : w.heap.size < W1.heap.size := blk_lt hbx
  have I1 : Hid (Idx B evB N C ev D W1) := HB.out W1 B1.out
  rw [hW1]
  clear hW1 p0 p4 po c0 c1 c2 c3 c4 c5 hbx HI
  have H35 : Hid (Calls Tryf.prog 35 #[.string hs] W1 fun e w' => (∃ t, e = .returned (.string t) ∧ t.size ≤ 67) ∧ w' = W1) := shown_any hs W1 (by omega)
  by_cases hk : k = 0
  · subst hk
    have hF1 := answers_open (HF.out W1 B1.out.tape)
    go_wp2_with (go_at_call 35; refine H35.out.mono ?_; rintro e w' ⟨⟨t, rfl, ht⟩, rfl⟩)
    go_ret
    exact ⟨(B1.out.alloc B1.out.size _).drew, _, rfl, fun _ => HT.out.1.noOwn t ht⟩
  · obtain ⟨ptw, rtw⟩ := I1.out.tw i hi
    have p7 : W1.cell? ⟨D.A.x, 7, none⟩ = some (.slice (some ⟨D.A.tw, 0, none⟩) N N) := cell_blk I1.out.box 7
    by_cases hT : 0 ≤ D.T i
    · obtain ⟨j, hj⟩ : ∃ j : Nat, D.T i = j := ⟨(D.T i).toNat, by omega⟩
      rw [hj] at ptw rtw
      have hjN : j < N := by omega
      have p0 : W1.cell? ⟨D.A.x, 0, none⟩ = some (.slice (some ⟨evB, 0, none⟩) N C) := cell_blk I1.out.box 0
      obtain ⟨d0, d1, d2, d3, d4, d5⟩ := I1.out.evs.six j hjN
      have hlj := HT.out.2 j hjN
      have H37 : Hid (Calls Tryf.prog 37 #[.agg #[.string (ev j).host, .slice (some ⟨(ev j).eb, 0, none⟩) (ev j).ne (ev j).ne, .string (ev j).text, .int .i64 (ev j).line, .string (ev j).file, .string (ev j).exec]] W1 fun e w' => (∃ s, e = .returned (.string s) ∧ s.size < 1073741824) ∧ Hid (Below w.heap.size w w') ∧ w.heap.size ≤ w'.heap.size) := by
        refine (placeT_any F HT.out.1 _ _ _ _ _ _ _ _ W1 (HF.out W1 B1.out.tape) hlj.1 hlj.2).mono ?_
        rintro e w' ⟨h1, h2⟩
        have h3 := B1.out.trans (h2.mono B1.out.size)
        exact ⟨h1, h3, h3.size⟩
      have j1 : (j : Int) < (N : Int) := by omega
      clear hT hj rtw hlj
      go_wp2_with (first | (go_at_call 35; refine H35.out.mono ?_; rintro e w' ⟨⟨t, rfl, ht⟩, rfl⟩) | (go_at_call 37; refine H37.out.mono ?_; rintro e w' ⟨⟨s, rfl, hs2⟩, hb2, hb3⟩; have hF1 := answers_open (HF.out w' hb2.out.tape)))
      go_ret
      exact ⟨(hb2.out.alloc hb2.out.size _).drew, _, rfl, fun _ => HT.out.1.twin t s k ht hs2 po2⟩
    · have hTn : D.T i = -1 := by omega
      rw [hTn] at ptw
      have hgoal : Hid (¬ Bad D i) := fun h => h.elim (fun h => hk (EQ.out.2.2.2.symm.trans h)) hT
      have HF1 : Hid (F.answers W1.tape) := HF.out W1 B1.out.tape
      have HFw : Hid (F.answers w.tape) := HF.out w rfl
      by_cases hk1 : 1 < k
      · have hk2 : (1 : Int) < (k : Int) := by omega
        have p6 : W1.cell? ⟨D.A.x, 6, none⟩ = some (.map (some D.A.f)) := cell_blk I1.out.box 6
        have p3 : W1.cell? ⟨D.A.x, 3, none⟩ = some (.slice (some ⟨D.A.hst, 0, none⟩) N N) := cell_blk I1.out.box 3
        obtain ⟨ph, hh2⟩ := I1.out.hst i hi
        have hHl := I1.out.nH
        obtain ⟨hh, hh0⟩ : ∃ x, D.hs i = x := ⟨_, rfl⟩
        rw [hh0] at ph hh2
        have hwrap : IntKind.u64.wrap ((k : Int) - 1) = ((k - 1 : Nat) : Int) := by simp [IntKind.wrap, IntKind.bits, IntKind.signed]; omega
        obtain ⟨kl, hkl⟩ := kvP_key (hh, k - 1) (by simp only; omega) (by simp only; omega)
        have HKL : Hid (keyOf Tryf.prog 88 (kvP (hh, k - 1)) = some kl) := hkl
        clear hkl hh0 hHl
        go_wp2_with (first | (go_at_call 35; refine H35.out.mono ?_; rintro e w' ⟨⟨t, rfl, ht⟩, rfl⟩))
        have HQ : Hid (∀ W' : World, Below w'.heap.size w' W' → W'.cell? ⟨w.heap.size, 1, none⟩ = some (.slice (some ⟨(ev i).eb, 0, none⟩) (ev i).ne (ev i).ne)) := fun W' h => by rw [EQ.out.2.1, EQ.out.2.2.1]; exact kc h q1
        by_cases hm : (hh, k - 1) ∈ D.Ks
        · obtain ⟨v, hv⟩ : ∃ v, ix D.Ks (hh, k - 1) = v := ⟨_, rfl⟩
          have hr : (Instr.lookup 71 (.map (some D.A.f)) (.agg #[.int .i64 (hh : Int), .int .u64 ((k - 1 : Nat) : Int)]) true).run Tryf.prog w'.drew = .ok (.tuple #[.int .i64 (v : Int), .bool true]) w'.drew := by
            have := (HB.out _ (B1.out.drew)).fst.hit law88 Tryf.underlying71 HKL.out hm
            rw [hv] at this
            exact this
          go_region_held3 (fun W' => W'.cell? ⟨D.A.x, 6, none⟩ = some (.map (some D.A.f)) ∧ W'.cell? ⟨D.A.x, 3, none⟩ = some (.slice (some ⟨D.A.hst, 0, none⟩) N N) ∧ W'.cell? ⟨D.A.hst, i, none⟩ = some (.int .i64 (hh : Int)) ∧ (Instr.lookup 71 (.map (some D.A.f)) (.agg #[.int .i64 (hh : Int), .int .u64 ((k - 1 : Nat) : Int)]) true).run Tryf.prog W' = .ok (.tuple #[.int .i64 (v : Int), .bool true]) W') (first | go_keep | exact ⟨p6, p3, ph, hr⟩) (fail)
          go_upto_region 12 with fail
          exact own12_any F B evB N C w.heap.size ev D w _ HFw.out hB i hi (HB.out _ B1.out.drew) B1.out.drew (HQ.out _ (Below.refl _ _).drew) hgoal.out (by assumption) (by assumption)
        · have hr : (Instr.lookup 71 (.map (some D.A.f)) (.agg #[.int .i64 (hh : Int), .int .u64 ((k - 1 : Nat) : Int)]) true).run Tryf.prog w'.drew = .ok (.tuple #[.int .i64 0, .bool false]) w'.drew := (HB.out _ (B1.out.drew)).fst.miss law88 Tryf.underlying71 HKL.out hm
          go_region_held3 (fun W' => W'.cell? ⟨D.A.x, 6, none⟩ = some (.map (some D.A.f)) ∧ W'.cell? ⟨D.A.x, 3, none⟩ = some (.slice (some ⟨D.A.hst, 0, none⟩) N N) ∧ W'.cell? ⟨D.A.hst, i, none⟩ = some (.int .i64 (hh : Int)) ∧ (Instr.lookup 71 (.map (some D.A.f)) (.agg #[.int .i64 (hh : Int), .int .u64 ((k - 1 : Nat) : Int)]) true).run Tryf.prog W' = .ok (.tuple #[.int .i64 0, .bool false]) W') (first | go_keep | exact ⟨p6, p3, ph, hr⟩) (fail)
          clear hr
          have hF1 := answers_open (HF.out w' B1.out.tape)
          go_wp2_with fail
          go_ret
          exact ⟨(B1.out.drew.alloc B1.out.size _).drew, _, rfl, fun h => absurd h hgoal.out⟩
      · have hk2 : ¬ (1 : Int) < (k : Int) := by omega
        have I2 := I1
        have hq : W1.cell? ⟨w.heap.size, 1, none⟩ = some (.slice (some ⟨(ev i).eb, 0, none⟩) (ev i).ne (ev i).ne) := by rw [EQ.out.2.1, EQ.out.2.2.1]; exact q1
        have HQ : Hid _ := hq
        clear hq
        go_upto_region 12 with (first | (go_at_call 35; refine H35.out.mono ?_; rintro e w' ⟨⟨t, rfl, ht⟩, rfl⟩))
        exact own12_any F B evB N C w.heap.size ev D w _ HFw.out hB i hi I1.out B1.out HQ.out hgoal.out (by assumption) (by assumption)
end Go.Proofs.Qxb6613595aFmt
