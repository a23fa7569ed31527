import Derived.Test.Qxb6613595aFmtOrAp2
namespace Go.Proofs.Qxb6613595aFmt
open Go.RowKit Go.Maps Go.Extern.Stop Go.Stop Go.Extern
attribute [local go_sem ↓] Go.wp_at_zero Go.wp_at_succ
set_option linter.unusedVariables false

def tst2 (fF : Func) : Code := after 1 (fF.body.getD .skip)
def tst2a (fF : Func) : Code := fstC (fstC (tst2 fF))
def tst2b (fF : Func) : Code := sndC (fstC (tst2 fF))
def tst2c (fF : Func) : Code := sndC (tst2 fF)
theorem FrA.refl (ob : Option Nat) (w : World) : FrA ob w w := ⟨rfl, rfl, rfl, Nat.le_refl _, fun _ _ _ => rfl⟩
theorem FrA.trans {ob : Option Nat} {a b c : World} (h : FrA ob a b) (k : FrA ob b c) : FrA ob a c := ⟨k.os.trans h.os, k.tape.trans h.tape, k.output.trans h.output, Nat.le_trans h.size k.size, fun i hi hne => (k.blk i (Nat.lt_of_lt_of_le hi h.size) hne).trans (h.blk i hi hne)⟩
theorem FrA.ofBelow {ob : Option Nat} {a b : World} (h : Below a.heap.size a b) : FrA ob a b := ⟨h.os, h.tape, h.output, h.size, fun i hi _ => h.block i hi⟩
theorem FrA.set {g : Nat} {a b : World} (h : FrA (some g) a b) (i : Nat) (v : Value) : FrA (some g) a (b.setCell ⟨g, i, none⟩ v) := ⟨h.os, h.tape, h.output, by have := h.size; simpa [World.setCell] using this, fun k hk hne => (Below.heap_setCell b _ _ k (fun e => hne (by rw [e]))).trans (h.blk k hk hne)⟩
theorem FrA.below {g B : Nat} {a b : World} (h : FrA (some g) a b) (hg : B ≤ g) (hB : B ≤ a.heap.size) : Below B a b := ⟨h.os, h.tape, h.output, h.size, fun k hk => h.blk k (by omega) (fun e => by have := Option.some.inj e; omega)⟩

theorem cell_other_d {w : World} {a : Addr} {v : Value} (h : w.cell? a = some v) {p : Addr} (u : Value) (hne : a.block ≠ p.block) : (w.setCell p u).drew.drew.cell? a = some v := by
  show (w.setCell p u).cell? a = some v
  exact cell_other h u hne

set_option maxRecDepth 20000 in
set_option maxHeartbeats 32000000 in
theorem tst2_any (F : Interp) (B evB N C bd be cB gK ga gv r i j : Nat) (vo : Bool) (nm : Value) (ev : Nat → Ev) (D : IxD) (w W : World) (hF : F.answers w.tape) (hi : i < N) (hj : j < N) (hI : Idx B evB N C ev D W) (hB : B ≤ w.heap.size) (hw : FrA (some gv) w W) (hgB : B ≤ gv) (hgw : gv < w.heap.size) (hbd : Bx W bd (ev j)) (hbe : Bx W be (ev i)) (hbd2 : bd ≠ gv) (hbe2 : be ≠ gv)
    (hc : W.heap[cB]? = some (.cells #[.int .i64 (r : Nat), .slice (some ⟨gK, 0, none⟩) D.H D.H, .slice (some ⟨ga, 0, none⟩) D.H D.H, .slice (some ⟨gv, 0, none⟩) D.H D.H, nm] 104 (0, 0))) (hk : Nums W gK D.H 42 .u64) (ha : Nums W ga D.H 3 .i64) (hv : Nums W gv D.H 3 .i64) (n1 : gK ≠ gv) (n2 : ga ≠ gv) (n3 : cB ≠ gv)
    {v5 v6 v7 v8 v9 v10 v13 v14 v15 v16 v17 v18 v19 v20 v21 v22 v23 v24 v25 v26 v27 v28 v29 v30 v31 v32 v33 v34 v35 v36 v37 v38 v39 v40 v41 v42 v43 v44 v45 v46 v47 v48 v49 v50 v51 v52 v53 v54 v55 v56 v57 v58 v59 v60 v61 v62 v63 v64 v65 v66 v67 v68 v69 v70 v71 v72 v73 v74 v75 v76 v77 v78 v79 v80 v81 v82 v83 v84 v85 v86 v87 v88 v89 v90 v91 v92 v93 v94 v95 v96 v97 v98 v99 v100 v101 v102 v103 v104 v105 v106 v107 v108 v109 v110 v111 v112 v113 v114 v115 v116 v117 v118 v119 v120 v121 v122 v123 v124 v125 v126 v127 v128 v129 v130 v131 v132 v133 v134 v135 v136 v137 v138 v139 v140 v141 v142 v143 v144 v145 v146 v147 v148 v149 v150 v151 v152 v153 v154 v155 v156 v157 v158 v159 v160 v161 v162 : Value} {K1 K2 : Act → World → Prop}
    (q1 : ∀ a w', Code.wp Tryf.prog (tst2b Tryf.f42) (Exit.then K2 (bodyPost Tryf.prog Tryf.f42 fun e w' => ∃ s, e = .returned (.string s) ∧ Hid (FrA (some gv) w w' ∧ Nums w' gv D.H 3 .i64))) a w' → K1 a w') (q2 : ∀ a w', Code.wp Tryf.prog (tst2c Tryf.f42) (bodyPost Tryf.prog Tryf.f42 fun e w' => ∃ s, e = .returned (.string s) ∧ Hid (FrA (some gv) w w' ∧ Nums w' gv D.H 3 .i64)) a w' → K2 a w') :
    Code.wp Tryf.prog (tst2a Tryf.f42) (Exit.then K1 (Exit.then K2 (bodyPost Tryf.prog Tryf.f42 fun e w' => ∃ s, e = .returned (.string s) ∧ Hid (FrA (some gv) w w' ∧ Nums w' gv D.H 3 .i64)))) { tmps := List.toArray ((.pointer (some ⟨cB, 0, none⟩) : Value) :: (.pointer (some ⟨D.A.x, 0, none⟩) : Value) :: (.int .i64 (j : Int) : Value) :: (.int .i64 (i : Int) : Value) :: (.bool vo : Value) :: v5 :: v6 :: v7 :: v8 :: v9 :: v10 :: (.pointer (some ⟨bd, 0, none⟩) : Value) :: (.pointer (some ⟨be, 0, none⟩) : Value) :: v13 :: v14 :: v15 :: v16 :: v17 :: v18 :: v19 :: v20 :: v21 :: v22 :: v23 :: v24 :: v25 :: v26 :: v27 :: v28 :: v29 :: v30 :: v31 :: v32 :: v33 :: v34 :: v35 :: v36 :: v37 :: v38 :: v39 :: v40 :: v41 :: v42 :: v43 :: v44 :: v45 :: v46 :: v47 :: v48 :: v49 :: v50 :: v51 :: v52 :: v53 :: v54 :: v55 :: v56 :: v57 :: v58 :: v59 :: v60 :: v61 :: v62 :: v63 :: v64 :: v65 :: v66 :: v67 :: v68 :: v69 :: v70 :: v71 :: v72 :: v73 :: v74 :: v75 :: v76 :: v77 :: v78 :: v79 :: v80 :: v81 :: v82 :: v83 :: v84 :: v85 :: v86 :: v87 :: v88 :: v89 :: v90 :: v91 :: v92 :: v93 :: v94 :: v95 :: v96 :: v97 :: v98 :: v99 :: v100 :: v101 :: v102 :: v103 :: v104 :: v105 :: v106 :: v107 :: v108 :: v109 :: v110 :: v111 :: v112 :: v113 :: v114 :: v115 :: v116 :: v117 :: v118 :: v119 :: v120 :: v121 :: v122 :: v123 :: v124 :: v125 :: v126 :: v127 :: v128 :: v129 :: v130 :: v131 :: v132 :: v133 :: v134 :: v135 :: v136 :: v137 :: v138 :: v139 :: v140 :: v141 :: v142 :: v143 :: v144 :: v145 :: v146 :: v147 :: v148 :: v149 :: v150 :: v151 :: v152 :: v153 :: v154 :: v155 :: v156 :: v157 :: v158 :: v159 :: v160 :: v161 :: v162 :: []), defers := [] } W := by
  have e : (tst2a Tryf.f42) = (tst2a Tryf.f42) := rfl
  conv at e => rhs; whnf
  rw [e]
  clear e
  have e : (tst2b Tryf.f42) = (tst2b Tryf.f42) := rfl
  conv at e => rhs; whnf
  rw [e] at q1
  clear e
  have e : (tst2c Tryf.f42) = (tst2c Tryf.f42) := rfl
  conv at e => rhs; whnf
  rw [e] at q2
  clear e
  have hBW : B ≤ W.heap.size := Nat.le_trans hB hw.size
  have HB : Hid (∀ W' : World, FrA (some gv) W W' → Idx B evB N C ev D W' ∧ F.answers W'.tape ∧ FrA (some gv) w W' ∧ Bx W' bd (ev j) ∧ Bx W' be (ev i) ∧ W'.heap[cB]? = some (.cells #[.int .i64 (r : Nat), .slice (some ⟨gK, 0, none⟩) D.H D.H, .slice (some ⟨ga, 0, none⟩) D.H D.H, .slice (some ⟨gv, 0, none⟩) D.H D.H, nm] 104 (0, 0)) ∧ Nums W' gK D.H 42 .u64 ∧ Nums W' ga D.H 3 .i64) := fun W' h =>
    ⟨hI.below (h.below hgB hBW), by rw [h.tape, hw.tape]; exact hF, hw.trans ⟨h.os, h.tape, h.output, h.size, h.blk⟩, (h.blk bd (blk_lt hbd) (fun e => hbd2 (Option.some.inj e))).trans hbd, (h.blk be (blk_lt hbe) (fun e => hbe2 (Option.some.inj e))).trans hbe, (h.blk cB (blk_lt hc) (fun e => n3 (Option.some.inj e))).trans hc, hk.same (h.blk gK hk.lt (fun e => n1 (Option.some.inj e))), ha.same (h.blk ga ha.lt (fun e => n2 (Option.some.inj e)))⟩
  have p1 := cell_blk hbd 1
  simp at p1
  have hN : N ≤ 4098 := hI.nN
  have hne := hI.evs.ne j hj
  have hes : Hid (∀ p, p < (ev j).ne → ((ev j).E p).1.size ≤ 1048576) := fun p hp => (hI.evs.es j hj p hp).1
  have hsj := hI.evs.hs j hj
  have hsi := hI.evs.hs i hi
  have HV : Hid (Nums W gv D.H 3 .i64) := hv
  clear hI hF hw hbd hbe hc hk ha hv
  obtain ⟨n, hn0⟩ : ∃ x, (ev j).ne = x := ⟨_, rfl⟩
  obtain ⟨eb, heb0⟩ : ∃ x, (ev j).eb = x := ⟨_, rfl⟩
  rw [hn0, heb0] at p1
  rw [hn0] at hne hes
  have EQ : Hid ((ev j).ne = n ∧ (ev j).eb = eb) := ⟨hn0, heb0⟩
  clear hn0 heb0
  have i1 : (0 : Int) ≤ (i : Int) := by omega
  have i2 : (i : Int) < (N : Int) := by omega
  have j1 : (0 : Int) ≤ (j : Int) := by omega
  have j2 : (j : Int) < (N : Int) := by omega
  go_wp2_with fail
  go_loopg [35] n (fun k s35 wr => ∃ p : Nat, s35 = .int .i64 (p : Int) ∧ p ≤ n ∧ n - p ≤ k ∧ Hid (FrA (some gv) W wr ∧ Nums wr gv D.H 3 .i64))
  case atStart => exact ⟨0, rfl, by omega, by omega, FrA.refl _ _, HV.out⟩
  case round =>
    obtain ⟨p, rfl, g1, g2, hR⟩ := hrel
    by_cases hlt : p < n
    · obtain ⟨I1, _⟩ := HB.out _ hR.out.1
      have hen := I1.evs.ent j hj
      rw [EQ.out.1, EQ.out.2] at hen
      obtain ⟨c1, c2⟩ := hen p hlt
      clear hen I1
      obtain ⟨hs, hs0⟩ : ∃ x, ((ev j).E p).1 = x := ⟨_, rfl⟩
      obtain ⟨c, hc0⟩ : ∃ x, ((ev j).E p).2 = x := ⟨_, rfl⟩
      have hsz := hes.out p hlt
      rw [hs0] at c1 hsz
      rw [hc0] at c2
      clear hs0 hc0
      have i3 : (p : Int) < (n : Int) := by omega
      go_upto_region 5 with fail
      obtain ⟨W2, hW2⟩ : ∃ W2, wr.alloc (Obj.cells #[Value.string hs, Value.int IntKind.u64 (c : Int)] 62) = W2 := ⟨_, rfl⟩
      have B2 : Hid (FrA (some gv) W W2 ∧ Nums W2 gv D.H 3 .i64) := by
        rw [← hW2]
        have b := (Below.refl wr.heap.size wr).alloc (Nat.le_refl _) (Obj.cells #[Value.string hs, Value.int IntKind.u64 (c : Int)] 62)
        exact ⟨hR.out.1.trans (FrA.ofBelow b), hR.out.2.same (b.block _ hR.out.2.lt)⟩
      have e0 : W2.cell? ⟨wr.heap.size, 0, none⟩ = some (.string hs) := by rw [← hW2, cell_blk (heap_alloc_new wr _)]; rfl
      have e1 : W2.cell? ⟨wr.heap.size, 1, none⟩ = some (.int .u64 (c : Int)) := by rw [← hW2, cell_blk (heap_alloc_new wr _)]; rfl
      rw [hW2]
      clear hW2 c1 c2
      obtain ⟨I2, A2, B3, x1, x2, x3, x4, x5⟩ := HB.out _ B2.out.1
      have d2 : W2.cell? ⟨D.A.x, 2, none⟩ = some (.slice (some ⟨D.A.ids, 0, none⟩) N N) := cell_blk I2.box 2
      have d3 : W2.cell? ⟨D.A.x, 3, none⟩ = some (.slice (some ⟨D.A.hst, 0, none⟩) N N) := cell_blk I2.box 3
      have d4 : W2.cell? ⟨D.A.x, 4, none⟩ = some (.slice (some ⟨D.A.own, 0, none⟩) N N) := cell_blk I2.box 4
      have f2 := I2.ids j hj
      rw [EQ.out.1] at f2
      obtain ⟨f3, h3⟩ := I2.iv j hj p (by rw [EQ.out.1]; exact hlt)
      obtain ⟨f4, h4⟩ := I2.hst i hi
      obtain ⟨f5, h5⟩ := I2.own j hj
      have k0 : W2.cell? ⟨cB, 0, none⟩ = some (.int .i64 (r : Nat)) := cell_blk x3 0
      have k1 : W2.cell? ⟨cB, 1, none⟩ = some (.slice (some ⟨gK, 0, none⟩) D.H D.H) := cell_blk x3 1
      have k2 : W2.cell? ⟨cB, 2, none⟩ = some (.slice (some ⟨ga, 0, none⟩) D.H D.H) := cell_blk x3 2
      have k3 : W2.cell? ⟨cB, 3, none⟩ = some (.slice (some ⟨gv, 0, none⟩) D.H D.H) := cell_blk x3 3
      have y0 := cell_blk x1 0
      have y1 := cell_blk x1 1
      have y2 := cell_blk x1 2
      have y3 := cell_blk x1 3
      have y4 := cell_blk x1 4
      have y5 := cell_blk x1 5
      have y6 := cell_blk x2 0
      have y7 := cell_blk x2 1
      simp at y0 y1 y2 y3 y4 y5 y6 y7
      generalize D.id j p = h at f3 h3
      generalize D.hs i = hh at f4 h4
      generalize D.off j = off at f2 f3
      generalize D.own j = oj at f5 h5
      obtain ⟨nk, z1, _⟩ := x4.cell h h3
      obtain ⟨na, z2, _⟩ := x5.cell h h3
      obtain ⟨nv, z3, z4⟩ := B2.out.2.cell h h3
      have B4 : Hid (FrA (some gv) w W2) := B3
      have hF1 := answers_open A2
      have A3 : Hid (F.answers W2.tape) := A2
      have hwl : wr.heap.size < W2.heap.size := World.block_lt_of_cell? _ _ e0
      have H7 : Hid (∀ w7 : World, Below W2.drew.drew.heap.size W2.drew.drew w7 → F.answers w7.tape) := fun w7 h => by rw [h.tape]; exact A2
      have HL : Hid (∀ w7 : World, Below W2.drew.drew.heap.size W2.drew.drew w7 → FrA (some gv) w w7 ∧ Nums w7 gv D.H 3 .i64) := fun w7 h => by
        have h' : Below W2.heap.size W2 w7 := (Below.refl _ W2).drew.drew.trans h
        exact ⟨B3.trans (FrA.ofBelow h'), B2.out.2.same (h'.block _ B2.out.2.lt)⟩
      have HR1 : Hid (FrA (some gv) W W2.drew ∧ Nums W2.drew gv D.H 3 .i64) := ⟨B2.out.1.trans (FrA.ofBelow (Below.refl _ W2).drew), B2.out.2.same rfl⟩
      have HR1d : Hid (FrA (some gv) W W2.drew.drew ∧ Nums W2.drew.drew gv D.H 3 .i64) := ⟨HR1.out.1.trans (FrA.ofBelow (Below.refl _ W2.drew).drew), HR1.out.2.same rfl⟩
      have H33 : Hid (∀ w7 : World, Below W2.drew.drew.heap.size W2.drew.drew w7 → Calls Tryf.prog 33 #[.agg #[.slice (some ⟨(ev i).eb, 0, none⟩) (ev i).ne (ev i).ne], .string hs] w7 fun e w' => e = .returned (.int .u64 (getE (ev i).E (ev i).ne hs : Nat)) ∧ Below W2.drew.drew.heap.size W2.drew.drew w') := fun w7 h => by
        have h' : Below W2.heap.size W2 w7 := (Below.refl _ W2).drew.drew.trans h
        have I7 := I2.below (h'.mono (Nat.le_trans hB B3.size))
        refine (get_any _ _ _ _ hs w7 (I7.evs.ent i hi) (I7.evs.ne i hi) ((I7.evs.eb i hi).imp id (fun q => by have := B3.size; have := h'.size; omega))).mono ?_
        rintro e w' ⟨h1, h2⟩
        exact ⟨h1, h.trans (h2.mono h.size)⟩
      clear I2 A2 B3 x1 x2 x3 x4 x5
      have i4 : (h : Int) < (D.H : Int) := by omega
      by_cases hra : na = r
      · subst hra
        go_wp2_with fail
        go_region_held3 (fun w' => w'.cell? ⟨cB, 2, none⟩ = some (.slice (some ⟨ga, 0, none⟩) D.H D.H) ∧ w'.cell? ⟨ga, h, none⟩ = some (.int .i64 (na : Nat)) ∧ w'.cell? ⟨cB, 0, none⟩ = some (.int .i64 (na : Nat))) (first | go_keep | exact ⟨k2, z2, k0⟩) (fail)
        by_cases hgt : nk < c
        · have hgt2 : (nk : Int) < (c : Int) := by omega
          by_cases hhh : h = hh
          · subst hhh
            go_wp2_with fail
            go_region_held3 (fun w' => w'.cell? ⟨D.A.x, 4, none⟩ = some (.slice (some ⟨D.A.own, 0, none⟩) N N) ∧ w'.cell? ⟨D.A.own, j, none⟩ = some (.int .u64 (oj : Nat)) ∧ w'.cell? ⟨bd, 0, none⟩ = some (.string (ev j).host) ∧ w'.cell? ⟨bd, 1, none⟩ = some (.slice (some ⟨(ev j).eb, 0, none⟩) (ev j).ne (ev j).ne) ∧ w'.cell? ⟨bd, 2, none⟩ = some (.string (ev j).text) ∧ w'.cell? ⟨bd, 3, none⟩ = some (.int .i64 (ev j).line) ∧ w'.cell? ⟨bd, 4, none⟩ = some (.string (ev j).file) ∧ w'.cell? ⟨bd, 5, none⟩ = some (.string (ev j).exec) ∧ w'.cell? ⟨be, 0, none⟩ = some (.string (ev i).host) ∧ w'.cell? ⟨be, 1, none⟩ = some (.slice (some ⟨(ev i).eb, 0, none⟩) (ev i).ne (ev i).ne) ∧ w'.cell? ⟨wr.heap.size, 0, none⟩ = some (.string hs) ∧ w'.cell? ⟨wr.heap.size, 1, none⟩ = some (.int .u64 (c : Int))) (first | go_keep | exact ⟨d4, f5, y0, y1, y2, y3, y4, y5, y6, y7, e0, e1⟩ | exact ⟨kc hb8.out d4, kc hb8.out f5, kc hb8.out y0, kc hb8.out y1, kc hb8.out y2, kc hb8.out y3, kc hb8.out y4, kc hb8.out y5, kc hb8.out y6, kc hb8.out y7, kc hb8.out e0, kc hb8.out e1⟩ | exact ⟨ca (kc hb8.out d4) _, ca (kc hb8.out f5) _, ca (kc hb8.out y0) _, ca (kc hb8.out y1) _, ca (kc hb8.out y2) _, ca (kc hb8.out y3) _, ca (kc hb8.out y4) _, ca (kc hb8.out y5) _, ca (kc hb8.out y6) _, ca (kc hb8.out y7) _, ca (kc hb8.out e0) _, ca (kc hb8.out e1) _⟩)
              (first | (go_at_call 35; refine (shown_any _ _ (by omega)).mono ?_; rintro e w' ⟨⟨t, rfl, ht⟩, rfl⟩) | (go_at_call 37; refine (place_any F _ _ _ _ _ _ _ _ W2.drew.drew A3.out).mono ?_; rintro e w7 ⟨⟨t, rfl⟩, hb7⟩; have hF7 := answers_open (H7.out w7 hb7); have hb8 : Hid (Below W2.drew.drew.heap.size W2.drew.drew w7) := hb7; have hb9 : wr.heap.size < w7.heap.size := Nat.lt_of_lt_of_le hwl hb7.size; clear hb7))
            go_wp2
            go_ret
            exact ⟨_, rfl, HL.out _ ((hb8.out.alloc hb8.out.size _).drew)⟩
          · have hhh2 : ¬ (h : Int) = (hh : Int) := by omega
            go_wp2_with fail
            go_region_held3 (fun w' => w'.cell? ⟨D.A.x, 4, none⟩ = some (.slice (some ⟨D.A.own, 0, none⟩) N N) ∧ w'.cell? ⟨D.A.own, j, none⟩ = some (.int .u64 (oj : Nat)) ∧ w'.cell? ⟨bd, 0, none⟩ = some (.string (ev j).host) ∧ w'.cell? ⟨bd, 1, none⟩ = some (.slice (some ⟨(ev j).eb, 0, none⟩) (ev j).ne (ev j).ne) ∧ w'.cell? ⟨bd, 2, none⟩ = some (.string (ev j).text) ∧ w'.cell? ⟨bd, 3, none⟩ = some (.int .i64 (ev j).line) ∧ w'.cell? ⟨bd, 4, none⟩ = some (.string (ev j).file) ∧ w'.cell? ⟨bd, 5, none⟩ = some (.string (ev j).exec) ∧ w'.cell? ⟨be, 0, none⟩ = some (.string (ev i).host) ∧ w'.cell? ⟨be, 1, none⟩ = some (.slice (some ⟨(ev i).eb, 0, none⟩) (ev i).ne (ev i).ne) ∧ w'.cell? ⟨wr.heap.size, 0, none⟩ = some (.string hs) ∧ w'.cell? ⟨wr.heap.size, 1, none⟩ = some (.int .u64 (c : Int))) (first | go_keep | exact ⟨d4, f5, y0, y1, y2, y3, y4, y5, y6, y7, e0, e1⟩ | exact ⟨kc hb8.out d4, kc hb8.out f5, kc hb8.out y0, kc hb8.out y1, kc hb8.out y2, kc hb8.out y3, kc hb8.out y4, kc hb8.out y5, kc hb8.out y6, kc hb8.out y7, kc hb8.out e0, kc hb8.out e1⟩ | exact ⟨ca (kc hb8.out d4) _, ca (kc hb8.out f5) _, ca (kc hb8.out y0) _, ca (kc hb8.out y1) _, ca (kc hb8.out y2) _, ca (kc hb8.out y3) _, ca (kc hb8.out y4) _, ca (kc hb8.out y5) _, ca (kc hb8.out y6) _, ca (kc hb8.out y7) _, ca (kc hb8.out e0) _, ca (kc hb8.out e1) _⟩ | exact ⟨kc hb6.out d4, kc hb6.out f5, kc hb6.out y0, kc hb6.out y1, kc hb6.out y2, kc hb6.out y3, kc hb6.out y4, kc hb6.out y5, kc hb6.out y6, kc hb6.out y7, kc hb6.out e0, kc hb6.out e1⟩ | exact ⟨ca (kc hb6.out d4) _, ca (kc hb6.out f5) _, ca (kc hb6.out y0) _, ca (kc hb6.out y1) _, ca (kc hb6.out y2) _, ca (kc hb6.out y3) _, ca (kc hb6.out y4) _, ca (kc hb6.out y5) _, ca (kc hb6.out y6) _, ca (kc hb6.out y7) _, ca (kc hb6.out e0) _, ca (kc hb6.out e1) _⟩)
              (first | (go_at_call 35; refine (shown_any _ _ (by omega)).mono ?_; rintro e w' ⟨⟨t, rfl, ht⟩, rfl⟩) | (go_at_call 37; refine (place_any F _ _ _ _ _ _ _ _ W2.drew.drew A3.out).mono ?_; rintro e w7 ⟨⟨t, rfl⟩, hb7⟩; have hF7 := answers_open (H7.out w7 hb7); have hb8 : Hid (Below W2.drew.drew.heap.size W2.drew.drew w7) := hb7; have hb9 : wr.heap.size < w7.heap.size := Nat.lt_of_lt_of_le hwl hb7.size; clear hb7) | (go_at_call 33; refine (H33.out _ (by first | exact hb8.out)).mono ?_; rintro e w8 ⟨rfl, hb7⟩; have hF8 := answers_open (H7.out w8 hb7); have hb6 : Hid (Below W2.drew.drew.heap.size W2.drew.drew w8) := hb7; clear hb7))
            go_wp2
            go_ret
            exact ⟨_, rfl, HL.out _ ((hb6.out.alloc hb6.out.size _).drew)⟩
        · have hgt2 : ¬ (nk : Int) < (c : Int) := by omega
          by_cases hce : c = nk
          · obtain rfl := hce
            cases vo
            · go_wp2_with fail
              go_roundg (n - (p + 1))
              case measure => omega
              case rel => exact ⟨p + 1, by rw [show (p : Int) + 1 = ((p + 1 : Nat) : Int) by omega], by omega, Nat.le_refl _, HR1.out⟩
            · go_wp2_with fail
              go_region_held3 (fun w' => w'.cell? ⟨cB, 3, none⟩ = some (.slice (some ⟨gv, 0, none⟩) D.H D.H) ∧ w'.cell? ⟨cB, 0, none⟩ = some (.int .i64 (na : Nat))) (first | exact ⟨k3, k0⟩ | exact ⟨cell_other_d k3 _ n3, cell_other_d k0 _ n3⟩) (fail)
              have HR2 : Hid (FrA (some gv) W (W2.setCell ⟨gv, h, none⟩ (.int .i64 (na : Nat))).drew.drew ∧ Nums (W2.setCell ⟨gv, h, none⟩ (.int .i64 (na : Nat))).drew.drew gv D.H 3 .i64) := ⟨(B2.out.1.set _ _).trans (FrA.ofBelow (Below.refl _ _).drew.drew), (B2.out.2.set _ _).same rfl⟩
              go_wp2_with fail
              go_roundg (n - (p + 1))
              case measure => omega
              case rel => exact ⟨p + 1, by rw [show (p : Int) + 1 = ((p + 1 : Nat) : Int) by omega], by omega, Nat.le_refl _, HR2.out⟩
          · have hce2 : ¬ (c : Int) = (nk : Int) := by omega
            go_wp2_with fail
            go_roundg (n - (p + 1))
            case measure => omega
            case rel => exact ⟨p + 1, by rw [show (p : Int) + 1 = ((p + 1 : Nat) : Int) by omega], by omega, Nat.le_refl _, HR1.out⟩
      · have hra2 : ¬ (na : Int) = (r : Int) := by omega
        go_wp2_with fail
        go_region_held3 (fun w' => w'.cell? ⟨cB, 2, none⟩ = some (.slice (some ⟨ga, 0, none⟩) D.H D.H) ∧ w'.cell? ⟨ga, h, none⟩ = some (.int .i64 (na : Nat)) ∧ w'.cell? ⟨cB, 0, none⟩ = some (.int .i64 (r : Nat))) (first | go_keep | exact ⟨k2, z2, k0⟩) (fail)
        by_cases hgt : 0 < c
        · have hgt2 : (0 : Int) < (c : Int) := by omega
          by_cases hhh : h = hh
          · subst hhh
            go_wp2_with fail
            go_region_held3 (fun w' => w'.cell? ⟨D.A.x, 4, none⟩ = some (.slice (some ⟨D.A.own, 0, none⟩) N N) ∧ w'.cell? ⟨D.A.own, j, none⟩ = some (.int .u64 (oj : Nat)) ∧ w'.cell? ⟨bd, 0, none⟩ = some (.string (ev j).host) ∧ w'.cell? ⟨bd, 1, none⟩ = some (.slice (some ⟨(ev j).eb, 0, none⟩) (ev j).ne (ev j).ne) ∧ w'.cell? ⟨bd, 2, none⟩ = some (.string (ev j).text) ∧ w'.cell? ⟨bd, 3, none⟩ = some (.int .i64 (ev j).line) ∧ w'.cell? ⟨bd, 4, none⟩ = some (.string (ev j).file) ∧ w'.cell? ⟨bd, 5, none⟩ = some (.string (ev j).exec) ∧ w'.cell? ⟨be, 0, none⟩ = some (.string (ev i).host) ∧ w'.cell? ⟨be, 1, none⟩ = some (.slice (some ⟨(ev i).eb, 0, none⟩) (ev i).ne (ev i).ne) ∧ w'.cell? ⟨wr.heap.size, 0, none⟩ = some (.string hs) ∧ w'.cell? ⟨wr.heap.size, 1, none⟩ = some (.int .u64 (c : Int))) (first | go_keep | exact ⟨d4, f5, y0, y1, y2, y3, y4, y5, y6, y7, e0, e1⟩ | exact ⟨kc hb8.out d4, kc hb8.out f5, kc hb8.out y0, kc hb8.out y1, kc hb8.out y2, kc hb8.out y3, kc hb8.out y4, kc hb8.out y5, kc hb8.out y6, kc hb8.out y7, kc hb8.out e0, kc hb8.out e1⟩ | exact ⟨ca (kc hb8.out d4) _, ca (kc hb8.out f5) _, ca (kc hb8.out y0) _, ca (kc hb8.out y1) _, ca (kc hb8.out y2) _, ca (kc hb8.out y3) _, ca (kc hb8.out y4) _, ca (kc hb8.out y5) _, ca (kc hb8.out y6) _, ca (kc hb8.out y7) _, ca (kc hb8.out e0) _, ca (kc hb8.out e1) _⟩)
              (first | (go_at_call 35; refine (shown_any _ _ (by omega)).mono ?_; rintro e w' ⟨⟨t, rfl, ht⟩, rfl⟩) | (go_at_call 37; refine (place_any F _ _ _ _ _ _ _ _ W2.drew.drew A3.out).mono ?_; rintro e w7 ⟨⟨t, rfl⟩, hb7⟩; have hF7 := answers_open (H7.out w7 hb7); have hb8 : Hid (Below W2.drew.drew.heap.size W2.drew.drew w7) := hb7; have hb9 : wr.heap.size < w7.heap.size := Nat.lt_of_lt_of_le hwl hb7.size; clear hb7))
            go_wp2
            go_ret
            exact ⟨_, rfl, HL.out _ ((hb8.out.alloc hb8.out.size _).drew)⟩
          · have hhh2 : ¬ (h : Int) = (hh : Int) := by omega
            go_wp2_with fail
            go_region_held3 (fun w' => w'.cell? ⟨D.A.x, 4, none⟩ = some (.slice (some ⟨D.A.own, 0, none⟩) N N) ∧ w'.cell? ⟨D.A.own, j, none⟩ = some (.int .u64 (oj : Nat)) ∧ w'.cell? ⟨bd, 0, none⟩ = some (.string (ev j).host) ∧ w'.cell? ⟨bd, 1, none⟩ = some (.slice (some ⟨(ev j).eb, 0, none⟩) (ev j).ne (ev j).ne) ∧ w'.cell? ⟨bd, 2, none⟩ = some (.string (ev j).text) ∧ w'.cell? ⟨bd, 3, none⟩ = some (.int .i64 (ev j).line) ∧ w'.cell? ⟨bd, 4, none⟩ = some (.string (ev j).file) ∧ w'.cell? ⟨bd, 5, none⟩ = some (.string (ev j).exec) ∧ w'.cell? ⟨be, 0, none⟩ = some (.string (ev i).host) ∧ w'.cell? ⟨be, 1, none⟩ = some (.slice (some ⟨(ev i).eb, 0, none⟩) (ev i).ne (ev i).ne) ∧ w'.cell? ⟨wr.heap.size, 0, none⟩ = some (.string hs) ∧ w'.cell? ⟨wr.heap.size, 1, none⟩ = some (.int .u64 (c : Int))) (first | go_keep | exact ⟨d4, f5, y0, y1, y2, y3, y4, y5, y6, y7, e0, e1⟩ | exact ⟨kc hb8.out d4, kc hb8.out f5, kc hb8.out y0, kc hb8.out y1, kc hb8.out y2, kc hb8.out y3, kc hb8.out y4, kc hb8.out y5, kc hb8.out y6, kc hb8.out y7, kc hb8.out e0, kc hb8.out e1⟩ | exact ⟨ca (kc hb8.out d4) _, ca (kc hb8.out f5) _, ca (kc hb8.out y0) _, ca (kc hb8.out y1) _, ca (kc hb8.out y2) _, ca (kc hb8.out y3) _, ca (kc hb8.out y4) _, ca (kc hb8.out y5) _, ca (kc hb8.out y6) _, ca (kc hb8.out y7) _, ca (kc hb8.out e0) _, ca (kc hb8.out e1) _⟩ | exact ⟨kc hb6.out d4, kc hb6.out f5, kc hb6.out y0, kc hb6.out y1, kc hb6.out y2, kc hb6.out y3, kc hb6.out y4, kc hb6.out y5, kc hb6.out y6, kc hb6.out y7, kc hb6.out e0, kc hb6.out e1⟩ | exact ⟨ca (kc hb6.out d4) _, ca (kc hb6.out f5) _, ca (kc hb6.out y0) _, ca (kc hb6.out y1) _, ca (kc hb6.out y2) _, ca (kc hb6.out y3) _, ca (kc hb6.out y4) _, ca (kc hb6.out y5) _, ca (kc hb6.out y6) _, ca (kc hb6.out y7) _, ca (kc hb6.out e0) _, ca (kc hb6.out e1) _⟩)
              (first | (go_at_call 35; refine (shown_any _ _ (by omega)).mono ?_; rintro e w' ⟨⟨t, rfl, ht⟩, rfl⟩) | (go_at_call 37; refine (place_any F _ _ _ _ _ _ _ _ W2.drew.drew A3.out).mono ?_; rintro e w7 ⟨⟨t, rfl⟩, hb7⟩; have hF7 := answers_open (H7.out w7 hb7); have hb8 : Hid (Below W2.drew.drew.heap.size W2.drew.drew w7) := hb7; have hb9 : wr.heap.size < w7.heap.size := Nat.lt_of_lt_of_le hwl hb7.size; clear hb7) | (go_at_call 33; refine (H33.out _ (by first | exact hb8.out)).mono ?_; rintro e w8 ⟨rfl, hb7⟩; have hF8 := answers_open (H7.out w8 hb7); have hb6 : Hid (Below W2.drew.drew.heap.size W2.drew.drew w8) := hb7; clear hb7))
            go_wp2
            go_ret
            exact ⟨_, rfl, HL.out _ ((hb6.out.alloc hb6.out.size _).drew)⟩
        · have hgt2 : ¬ (0 : Int) < (c : Int) := by omega
          by_cases hce : c = 0
          · obtain rfl := hce
            cases vo
            · go_wp2_with fail
              go_roundg (n - (p + 1))
              case measure => omega
              case rel => exact ⟨p + 1, by rw [show (p : Int) + 1 = ((p + 1 : Nat) : Int) by omega], by omega, Nat.le_refl _, HR1.out⟩
            · go_wp2_with fail
              go_region_held3 (fun w' => w'.cell? ⟨cB, 3, none⟩ = some (.slice (some ⟨gv, 0, none⟩) D.H D.H) ∧ w'.cell? ⟨cB, 0, none⟩ = some (.int .i64 (r : Nat))) (first | exact ⟨k3, k0⟩ | exact ⟨cell_other_d k3 _ n3, cell_other_d k0 _ n3⟩) (fail)
              have HR2 : Hid (FrA (some gv) W (W2.setCell ⟨gv, h, none⟩ (.int .i64 (r : Nat))).drew.drew ∧ Nums (W2.setCell ⟨gv, h, none⟩ (.int .i64 (r : Nat))).drew.drew gv D.H 3 .i64) := ⟨(B2.out.1.set _ _).trans (FrA.ofBelow (Below.refl _ _).drew.drew), (B2.out.2.set _ _).same rfl⟩
              go_wp2_with fail
              go_roundg (n - (p + 1))
              case measure => omega
              case rel => exact ⟨p + 1, by rw [show (p : Int) + 1 = ((p + 1 : Nat) : Int) by omega], by omega, Nat.le_refl _, HR2.out⟩
          · have hce2 : ¬ (c : Int) = (0 : Int) := by omega
            exact absurd hce2 (by omega)
    · obtain rfl : p = n := by omega
      go_wp2_with fail
      go_ret
      exact ⟨_, rfl, (HB.out _ hR.out.1).2.2.1, hR.out.2⟩
end Go.Proofs.Qxb6613595aFmt
