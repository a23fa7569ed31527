import Derived.Test.Qxb6613595aFmtOrIn
namespace Go.Proofs.Qxb6613595aFmt
open Go.RowKit Go.Maps
attribute [local go_sem ↓] Go.wp_at_zero Go.wp_at_succ
set_option linter.unusedVariables false

def r22 (fF : Func) : Code := after 21 (r19 fF)
theorem Bx.other {W : World} {Eb : Nat} {e : Ev} (h : Bx W Eb e) {a : Addr} (v : Value) (hne : Eb ≠ a.block) : Bx (W.setCell a v) Eb e := (Below.heap_setCell W a v Eb hne).trans h
theorem Bx.below {W W' : World} {Eb : Nat} {e : Ev} (h : Bx W Eb e) (hb : Below W.heap.size W W') : Bx W' Eb e := (hb.block Eb (blk_lt h)).trans h
set_option maxRecDepth 20000 in
set_option maxHeartbeats 16000000 in
theorem r19_any (N M gI m Eb evB : Nat) (ev : Nat → Ev) (A : Adr) (w0 : World) (ok : AOk w0.heap.size A gI) (hE : RdEv w0.heap.size w0 evB N ev) (hm : m < N) (hN : N ≤ 4098) (fi fh fo fw ft fv : Nat → Value) (L : List (List UInt8)) (Ks : List (Nat × Nat)) (sz : Nat) (W : World) (evv : Value)
  (hS : St N w0 evv A gI M fi fh fo fw ft fv L Ks sz W) (hL : L.length < 1048576 * 2) (hEb : Eb ∉ gI :: A.list) (hB : Bx W Eb (ev m)) {v0 v1 v2 v4 v5 v6 v7 v10 v11 v12 v13 v14 v15 v16 v17 v18 v19 v20 v21 v22 v23 v24 v25 v26 v27 v28 v29 v30 v31 v32 v33 v34 v35 v36 v37 v38 v39 v40 v41 v42 v43 v44 v45 v46 v47 v48 v49 v50 v51 v52 v53 v54 v55 v56 v57 v58 v59 v60 v61 v62 v63 v64 v65 v66 v67 v68 v69 v70 v71 v72 v73 v74 v75 v76 v77 v78 v79 v80 v81 v82 v83 v84 v85 v86 v87 v88 v89 v90 v91 v92 v93 v94 v95 v96 v97 v98 v99 v100 v101 v102 v103 v104 v105 v106 v107 v108 v109 v110 v111 v112 v113 v114 v115 v116 v117 v118 v119 v120 v121 v122 v123 v124 v125 v126 v127 v128 v129 v130 v131 v132 v133 v134 v135 v136 v137 v138 v139 v140 v141 v142 v143 v144 v145 v146 v147 v148 v149 v150 v151 v152 v153 v154 v155 v156 v157 v158 v159 v160 v161 v162 v163 v164 v165 v166 v167 v168 v169 v170 v171 v172 v173 v174 v175 v176 v177 v178 v179 v180 v181 v182 v183 v184 v185 v186 v187 v188 v189 v190 v191 v192 v193 v194 v195 v196 v197 v198 v199 v200 v201 v202 v203 v204 v205 v206 v207 v208 v209 v210 v211 v212 v213 v214 v215 v216 v217 v218 v219 v220 : Value} {Q : Exit → Act → World → Prop}
  (hK : ∀ (y102 y103 y104 y105 y106 y107 y108 y109 y110 y111 y112 y113 y114 y115 y116 y117 y118 y119 y120 y121 y122 y123 y124 y125 y126 y127 y128 y129 y130 y131 : Value) (x y : Nat) (W' : World), Hid (St N w0 evv A gI M fi (upd fh m (.int .i64 (ix (addH L (ev m).host.data.toList) (ev m).host.data.toList : Nat))) (upd fo m (.int .u64 (getE (ev m).E (ev m).ne (ev m).host : Nat))) (upd (upd fw (m * 2) (.int .u64 x)) (m * 2 + 1) (.int .u64 y)) ft fv (addH L (ev m).host.data.toList) Ks sz W') → Code.wp Tryf.prog (r22 Tryf.f16) Q { tmps := List.toArray (v0 :: v1 :: v2 :: (.pointer (some ⟨A.x, 0, none⟩) : Value) :: v4 :: v5 :: v6 :: v7 :: (.int .i64 (m : Int) : Value) :: (.pointer (some ⟨Eb, 0, none⟩) : Value) :: v10 :: v11 :: v12 :: v13 :: v14 :: v15 :: v16 :: v17 :: v18 :: v19 :: v20 :: v21 :: v22 :: v23 :: v24 :: v25 :: v26 :: v27 :: v28 :: v29 :: v30 :: v31 :: v32 :: v33 :: v34 :: v35 :: v36 :: v37 :: v38 :: v39 :: v40 :: v41 :: v42 :: v43 :: v44 :: v45 :: v46 :: v47 :: v48 :: v49 :: v50 :: v51 :: v52 :: v53 :: v54 :: v55 :: v56 :: v57 :: v58 :: v59 :: v60 :: v61 :: v62 :: v63 :: v64 :: v65 :: v66 :: v67 :: v68 :: v69 :: v70 :: v71 :: v72 :: v73 :: v74 :: v75 :: v76 :: v77 :: v78 :: v79 :: v80 :: v81 :: v82 :: v83 :: v84 :: v85 :: v86 :: v87 :: v88 :: v89 :: v90 :: v91 :: v92 :: v93 :: v94 :: v95 :: v96 :: v97 :: v98 :: v99 :: v100 :: v101 :: y102 :: y103 :: y104 :: y105 :: y106 :: y107 :: y108 :: y109 :: y110 :: y111 :: y112 :: y113 :: y114 :: y115 :: y116 :: y117 :: y118 :: y119 :: y120 :: y121 :: y122 :: y123 :: y124 :: y125 :: y126 :: y127 :: y128 :: y129 :: y130 :: y131 :: v132 :: v133 :: v134 :: v135 :: v136 :: v137 :: v138 :: v139 :: v140 :: v141 :: v142 :: v143 :: v144 :: v145 :: v146 :: v147 :: v148 :: v149 :: v150 :: v151 :: v152 :: v153 :: v154 :: v155 :: v156 :: v157 :: v158 :: v159 :: v160 :: v161 :: v162 :: v163 :: v164 :: v165 :: v166 :: v167 :: v168 :: v169 :: v170 :: v171 :: v172 :: v173 :: v174 :: v175 :: v176 :: v177 :: v178 :: v179 :: v180 :: v181 :: v182 :: v183 :: v184 :: v185 :: v186 :: v187 :: v188 :: v189 :: v190 :: v191 :: v192 :: v193 :: v194 :: v195 :: v196 :: v197 :: v198 :: v199 :: v200 :: v201 :: v202 :: v203 :: v204 :: v205 :: v206 :: v207 :: v208 :: v209 :: v210 :: v211 :: v212 :: v213 :: v214 :: v215 :: v216 :: v217 :: v218 :: v219 :: v220 :: []), defers := [] } W') :
  Code.wp Tryf.prog (r19 Tryf.f16) Q { tmps := List.toArray (v0 :: v1 :: v2 :: (.pointer (some ⟨A.x, 0, none⟩) : Value) :: v4 :: v5 :: v6 :: v7 :: (.int .i64 (m : Int) : Value) :: (.pointer (some ⟨Eb, 0, none⟩) : Value) :: v10 :: v11 :: v12 :: v13 :: v14 :: v15 :: v16 :: v17 :: v18 :: v19 :: v20 :: v21 :: v22 :: v23 :: v24 :: v25 :: v26 :: v27 :: v28 :: v29 :: v30 :: v31 :: v32 :: v33 :: v34 :: v35 :: v36 :: v37 :: v38 :: v39 :: v40 :: v41 :: v42 :: v43 :: v44 :: v45 :: v46 :: v47 :: v48 :: v49 :: v50 :: v51 :: v52 :: v53 :: v54 :: v55 :: v56 :: v57 :: v58 :: v59 :: v60 :: v61 :: v62 :: v63 :: v64 :: v65 :: v66 :: v67 :: v68 :: v69 :: v70 :: v71 :: v72 :: v73 :: v74 :: v75 :: v76 :: v77 :: v78 :: v79 :: v80 :: v81 :: v82 :: v83 :: v84 :: v85 :: v86 :: v87 :: v88 :: v89 :: v90 :: v91 :: v92 :: v93 :: v94 :: v95 :: v96 :: v97 :: v98 :: v99 :: v100 :: v101 :: v102 :: v103 :: v104 :: v105 :: v106 :: v107 :: v108 :: v109 :: v110 :: v111 :: v112 :: v113 :: v114 :: v115 :: v116 :: v117 :: v118 :: v119 :: v120 :: v121 :: v122 :: v123 :: v124 :: v125 :: v126 :: v127 :: v128 :: v129 :: v130 :: v131 :: v132 :: v133 :: v134 :: v135 :: v136 :: v137 :: v138 :: v139 :: v140 :: v141 :: v142 :: v143 :: v144 :: v145 :: v146 :: v147 :: v148 :: v149 :: v150 :: v151 :: v152 :: v153 :: v154 :: v155 :: v156 :: v157 :: v158 :: v159 :: v160 :: v161 :: v162 :: v163 :: v164 :: v165 :: v166 :: v167 :: v168 :: v169 :: v170 :: v171 :: v172 :: v173 :: v174 :: v175 :: v176 :: v177 :: v178 :: v179 :: v180 :: v181 :: v182 :: v183 :: v184 :: v185 :: v186 :: v187 :: v188 :: v189 :: v190 :: v191 :: v192 :: v193 :: v194 :: v195 :: v196 :: v197 :: v198 :: v199 :: v200 :: v201 :: v202 :: v203 :: v204 :: v205 :: v206 :: v207 :: v208 :: v209 :: v210 :: v211 :: v212 :: v213 :: v214 :: v215 :: v216 :: v217 :: v218 :: v219 :: v220 :: []), defers := [] } W := by
  have e : (r19 Tryf.f16) = (r19 Tryf.f16) := rfl
  conv at e => rhs; whnf
  rw [e]
  clear e
  have OK : Hid (AOk w0.heap.size A gI ∧ Eb ∉ gI :: A.list) := ⟨ok, hEb⟩
  have HK : Hid _ := hK
  have HE : Hid (RdEv w0.heap.size w0 evB N ev) := hE
  have HS : Hid (St N w0 evv A gI M fi fh fo fw ft fv L Ks sz W ∧ Bx W Eb (ev m)) := ⟨hS, hB⟩
  have i1 : (0 : Int) ≤ (m : Int) := by omega
  have i2 : (m : Int) < (N : Int) := by omega
  have hsz : (ev m).host.size ≤ 1048576 := hE.hs m hm
  have hnn : (ev m).ne < 1048577 := hE.ne m hm
  obtain ⟨E, hE0⟩ : ∃ x, (ev m).E = x := ⟨_, rfl⟩
  obtain ⟨n, hn0⟩ : ∃ x, (ev m).ne = x := ⟨_, rfl⟩
  obtain ⟨eb, heb0⟩ : ∃ x, (ev m).eb = x := ⟨_, rfl⟩
  obtain ⟨hs, hs0⟩ : ∃ x, (ev m).host = x := ⟨_, rfl⟩
  have HR : Hid (∀ W' : World, Below w0.heap.size w0 W' → RdE W' eb n E ∧ (n = 0 ∨ eb < W'.heap.size)) := fun W' hb => by
    have h1 := (HE.out.below hb).ent m hm
    have h2 := HE.out.eb m hm
    rw [hE0, hn0, heb0] at h1
    rw [hn0, heb0] at h2
    exact ⟨h1, h2.imp id (fun h => Nat.lt_of_lt_of_le h hb.size)⟩
  rw [hE0, hn0, hs0] at HK
  rw [hn0] at hnn
  rw [hs0] at hsz
  have q1 : W.cell? ⟨A.x, 3, none⟩ = some (.slice (some ⟨A.hst, 0, none⟩) N N) := cell_blk hS.box 3
  have q2 : W.cell? ⟨Eb, 0, none⟩ = some (.string hs) := by rw [cell_blk hB, ← hs0]; rfl
  have HB0 : Hid (∀ W' : World, Bx W' Eb (ev m) → W'.cell? ⟨Eb, 0, none⟩ = some (.string hs) ∧ W'.cell? ⟨Eb, 1, none⟩ = some (.slice (some ⟨eb, 0, none⟩) n n)) := fun W' h => ⟨by rw [cell_blk h, ← hs0]; rfl, by rw [cell_blk h, ← hn0, ← heb0]; rfl⟩
  clear hS hB hK hE ok hEb hE0 hn0 heb0 hs0
  have HC32 : Hid (Calls Tryf.prog 32 #[.pointer (some ⟨A.x, 0, none⟩), .string hs] W.drew fun e w' => e = .returned (.int .i64 (ix (addH L hs.data.toList) hs.data.toList : Nat)) ∧ w'.cell? ⟨A.x, 3, none⟩ = some (.slice (some ⟨A.hst, 0, none⟩) N N) ∧ w'.cell? ⟨Eb, 0, none⟩ = some (.string hs) ∧ w'.cell? ⟨A.hst, m, none⟩ = some (fh m) ∧ w'.frozen? ⟨A.hst, m, none⟩ = false ∧ Hid (St N w0 evv A gI M fi fh fo fw ft fv (addH L hs.data.toList) Ks sz w' ∧ Bx w' Eb (ev m))) := by
    obtain ⟨W', hW'⟩ : ∃ W', W.drew = W' := ⟨_, rfl⟩
    rw [hW']
    have hb0 : Below W.heap.size W W' := by rw [← hW']; exact (Below.refl _ W).drew
    have S' := HS.out.1.below hb0
    have B' := HS.out.2.below hb0
    refine (number_any A.x A.n L hs W' (cell_blk S'.box 1) S'.num hsz hL).mono ?_
    rintro e w' ⟨rfl, hM', hg⟩
    have S2 := S'.number OK.out.1 hg hM'
    have hne : Eb ≠ A.n := fun e => OK.out.2 (by rw [e]; simp [Adr.list])
    have B2 : Bx w' Eb (ev m) := (hg.block Eb (blk_lt B') (fun e => hne (Option.some.inj e))).trans B'
    exact ⟨rfl, cell_blk S2.box 3, (HB0.out _ B2).1, S2.hst.cell m hm, S2.hst.free m, S2, B2⟩
  have nx : Eb ≠ A.hst ∧ Eb ≠ A.own ∧ Eb ≠ A.wt ∧ Eb ≠ A.tw := ⟨fun e => OK.out.2 (by rw [e]; simp [Adr.list]), fun e => OK.out.2 (by rw [e]; simp [Adr.list]), fun e => OK.out.2 (by rw [e]; simp [Adr.list]), fun e => OK.out.2 (by rw [e]; simp [Adr.list])⟩
  obtain ⟨nx1, nx2, nx3, nx4⟩ := nx
  obtain ⟨_, ⟨_, _, ax3, ax4, ax5, _, ax7⟩, _⟩ := OK.out.1.ne
  go_wp2_with fail
  go_region_held3 (fun w' => w'.cell? ⟨A.x, 3, none⟩ = some (.slice (some ⟨A.hst, 0, none⟩) N N) ∧ w'.cell? ⟨Eb, 0, none⟩ = some (.string hs)) (first | go_keep | exact ⟨z1, z2⟩ | exact ⟨cell_other z1 _ ax3, cell_other z2 _ nx1⟩)
    (first | (go_at_call 32; refine HC32.out.mono ?_; rintro e w' ⟨rfl, z1, z2, z3, z4, z5⟩))
  obtain ⟨W2, hW2⟩ : ∃ W2, w'.setCell ⟨A.hst, m, none⟩ (.int .i64 (ix (addH L hs.data.toList) hs.data.toList : Nat)) = W2 := ⟨_, rfl⟩
  have S2 : Hid (St N w0 evv A gI M fi (upd fh m (.int .i64 (ix (addH L hs.data.toList) hs.data.toList : Nat))) fo fw ft fv (addH L hs.data.toList) Ks sz W2 ∧ Bx W2 Eb (ev m)) := by rw [← hW2]; exact ⟨z5.out.1.setHst OK.out.1 _ _, z5.out.2.other _ nx1⟩
  rw [hW2]
  clear hW2 z1 z2 z3 z4 z5 HC32 q1 q2
  have p1 : W2.cell? ⟨A.x, 4, none⟩ = some (.slice (some ⟨A.own, 0, none⟩) N N) := cell_blk S2.out.1.box 4
  obtain ⟨p2, p3⟩ := HB0.out _ S2.out.2
  have HC33 : Hid (Calls Tryf.prog 33 #[.agg #[.slice (some ⟨eb, 0, none⟩) n n], .string hs] W2.drew fun e w' => e = .returned (.int .u64 (getE E n hs : Nat)) ∧ w'.cell? ⟨A.x, 4, none⟩ = some (.slice (some ⟨A.own, 0, none⟩) N N) ∧ w'.cell? ⟨Eb, 0, none⟩ = some (.string hs) ∧ w'.cell? ⟨Eb, 1, none⟩ = some (.slice (some ⟨eb, 0, none⟩) n n) ∧ w'.cell? ⟨A.own, m, none⟩ = some (fo m) ∧ w'.frozen? ⟨A.own, m, none⟩ = false ∧ Hid (St N w0 evv A gI M fi (upd fh m (.int .i64 (ix (addH L hs.data.toList) hs.data.toList : Nat))) fo fw ft fv (addH L hs.data.toList) Ks sz w' ∧ Bx w' Eb (ev m))) := by
    have S' := S2.out.1.below (Below.refl _ W2).drew
    have B' := S2.out.2.below (Below.refl _ W2).drew
    obtain ⟨r1, r2⟩ := HR.out _ S'.low
    refine (get_any eb n n E hs W2.drew r1 hnn r2).mono ?_
    rintro e w' ⟨rfl, hb⟩
    have S3 := S'.below hb
    have B3 := B'.below hb
    exact ⟨rfl, cell_blk S3.box 4, (HB0.out _ B3).1, (HB0.out _ B3).2, S3.own.cell m hm, S3.own.free m, S3, B3⟩
  go_wp2_with fail
  go_region_held3 (fun w' => w'.cell? ⟨A.x, 4, none⟩ = some (.slice (some ⟨A.own, 0, none⟩) N N) ∧ w'.cell? ⟨Eb, 0, none⟩ = some (.string hs) ∧ w'.cell? ⟨Eb, 1, none⟩ = some (.slice (some ⟨eb, 0, none⟩) n n)) (first | go_keep | exact ⟨z1, z2, z3⟩ | exact ⟨cell_other z1 _ ax4, cell_other z2 _ nx2, cell_other z3 _ nx2⟩)
    (first | (go_at_call 33; refine HC33.out.mono ?_; rintro e w' ⟨rfl, z1, z2, z3, z4, z5, z6⟩))
  obtain ⟨W3, hW3⟩ : ∃ W3, w'.setCell ⟨A.own, m, none⟩ (.int .u64 (getE E n hs : Nat)) = W3 := ⟨_, rfl⟩
  have S3 : Hid (St N w0 evv A gI M fi (upd fh m (.int .i64 (ix (addH L hs.data.toList) hs.data.toList : Nat))) (upd fo m (.int .u64 (getE E n hs : Nat))) fw ft fv (addH L hs.data.toList) Ks sz W3 ∧ Bx W3 Eb (ev m)) := by rw [← hW3]; exact ⟨z6.out.1.setOwn OK.out.1 _ _, z6.out.2.other _ nx2⟩
  rw [hW3]
  clear hW3 z1 z2 z3 z4 z5 z6 HC33 p1 p2 p3 S2
  have p1 : W3.cell? ⟨A.x, 5, none⟩ = some (.slice (some ⟨A.wt, 0, none⟩) N N) := cell_blk S3.out.1.box 5
  obtain ⟨_, p3⟩ := HB0.out _ S3.out.2
  have HC34 : Hid (Calls Tryf.prog 34 #[.agg #[.slice (some ⟨eb, 0, none⟩) n n]] W3.drew fun e w' => (∃ x y : Nat, e = .returned (.agg #[.int .u64 x, .int .u64 y])) ∧ w'.cell? ⟨A.x, 5, none⟩ = some (.slice (some ⟨A.wt, 0, none⟩) N N) ∧ w'.cell? ⟨Eb, 1, none⟩ = some (.slice (some ⟨eb, 0, none⟩) n n) ∧ w'.cell? ⟨A.wt, m * 2, none⟩ = some (fw (m * 2)) ∧ w'.cell? ⟨A.wt, m * 2 + 1, none⟩ = some (fw (m * 2 + 1)) ∧ w'.frozen? ⟨A.wt, m * 2, none⟩ = false ∧ w'.frozen? ⟨A.wt, m * 2 + 1, none⟩ = false ∧ Hid (St N w0 evv A gI M fi (upd fh m (.int .i64 (ix (addH L hs.data.toList) hs.data.toList : Nat))) (upd fo m (.int .u64 (getE E n hs : Nat))) fw ft fv (addH L hs.data.toList) Ks sz w' ∧ Bx w' Eb (ev m))) := by
    have S' := S3.out.1.below (Below.refl _ W3).drew
    have B' := S3.out.2.below (Below.refl _ W3).drew
    obtain ⟨r1, r2⟩ := HR.out _ S'.low
    refine (weigh_any eb n n E W3.drew r1 hnn r2).mono ?_
    rintro e w' ⟨he, hb⟩
    have S4 := S'.below hb
    have B4 := B'.below hb
    exact ⟨he, cell_blk S4.box 5, (HB0.out _ B4).2, S4.wt.cell _ (by omega), S4.wt.cell _ (by omega), S4.wt.free _, S4.wt.free _, S4, B4⟩
  go_wp2_with fail
  go_region_held3 (fun w' => w'.cell? ⟨A.x, 5, none⟩ = some (.slice (some ⟨A.wt, 0, none⟩) N N) ∧ w'.cell? ⟨Eb, 1, none⟩ = some (.slice (some ⟨eb, 0, none⟩) n n)) (first | go_keep | exact ⟨z1, z3⟩ | exact ⟨cell_other (cell_other z1 _ ax5) _ ax5, cell_other (cell_other z3 _ nx3) _ nx3⟩)
    (first | (go_at_call 34; refine HC34.out.mono ?_; rintro e w' ⟨⟨x, y, rfl⟩, z1, z3, z4, z5, z6, z7, z8⟩))
  obtain ⟨W4, hW4⟩ : ∃ W4, (w'.setCell ⟨A.wt, m * 2, none⟩ (.int .u64 (x : Nat))).setCell ⟨A.wt, m * 2 + 1, none⟩ (.int .u64 (y : Nat)) = W4 := ⟨_, rfl⟩
  have S4 : Hid (St N w0 evv A gI M fi (upd fh m (.int .i64 (ix (addH L hs.data.toList) hs.data.toList : Nat))) (upd fo m (.int .u64 (getE E n hs : Nat))) (upd (upd fw (m * 2) (.int .u64 x)) (m * 2 + 1) (.int .u64 y)) ft fv (addH L hs.data.toList) Ks sz W4) := by rw [← hW4]; exact (z8.out.1.setWt OK.out.1 _ _).setWt OK.out.1 _ _
  rw [hW4]
  clear hW4 z1 z3 z4 z5 z6 z7 z8 HC34 p1 p3 S3
  rename_i Kk ak hHeld
  have e : (r22 Tryf.f16) = (r22 Tryf.f16) := rfl
  conv at e => rhs; whnf
  rw [e] at HK
  exact ak _ _ (HK.out _ _ _ _ _ _ _ _ _ _ _ _ _ _ _ _ _ _ _ _ _ _ _ _ _ _ _ _ _ _ x y W4 S4)
end Go.Proofs.Qxb6613595aFmt
