import Derived.Test.Qxb6613595aFmtOrR19
namespace Go.Proofs.Qxb6613595aFmt
open Go.RowKit Go.Maps
attribute [local go_sem ↓] Go.wp_at_zero Go.wp_at_succ
set_option linter.unusedVariables false

theorem ca {w : World} {a : Addr} {v : Value} (h : w.cell? a = some v) (o : Obj) : (w.alloc o).cell? a = some v := kc ((Below.refl _ w).alloc (Nat.le_refl _) o) h
/-- Twins. -/
structure Tw (m : Nat) (Ks : List (Nat × Nat)) (T : Nat → Int) (ft : Nat → Value) : Prop where
  cell : ∀ i, i < m → ft i = .int .i64 (T i)
  rng : ∀ i, i < m → T i = -1 ∨ (0 ≤ T i ∧ T i < m)
  pair : ∀ i j, i < m → j < m → i ≠ j → Ks[i]? = Ks[j]? → 0 ≤ T i
def updI (f : Nat → Int) (i : Nat) (v : Int) : Nat → Int := fun j => if j = i then v else f j
theorem Tw.miss {m : Nat} {Ks : List (Nat × Nat)} {T : Nat → Int} {ft : Nat → Value} (h : Tw m Ks T ft) (hl : Ks.length = m) {k : Nat × Nat} (hk : k ∉ Ks) : Tw (m + 1) (Ks ++ [k]) (updI T m (-1)) (upd ft m (.int .i64 (-1))) := by
  have ne : ∀ i, i < m → (Ks ++ [k])[i]? ≠ some k := fun i hi e => by
    rw [List.getElem?_append_left (by omega)] at e
    exact hk (List.mem_of_getElem? e)
  have last : (Ks ++ [k])[m]? = some k := by rw [List.getElem?_append_right (by omega), hl]; simp
  refine ⟨fun i hi => ?_, fun i hi => ?_, fun i j hi hj hne he => ?_⟩
  · by_cases him : i = m
    · subst him; rw [upd_same]; simp [updI]
    · rw [upd_other _ _ _ _ him]; simp only [updI, him, if_false]; exact h.cell i (by omega)
  · by_cases him : i = m
    · subst him; left; simp [updI]
    · simp only [updI, him, if_false]
      rcases h.rng i (by omega) with h1 | h1
      · exact .inl h1
      · exact .inr (by omega)
  · by_cases him : i = m
    · subst him; rw [last] at he; exact absurd he.symm (ne j (by omega))
    · by_cases hjm : j = m
      · subst hjm; rw [last] at he; exact absurd he (ne i (by omega))
      · simp only [updI, him, if_false]
        rw [List.getElem?_append_left (by omega), List.getElem?_append_left (by omega)] at he
        exact h.pair i j (by omega) (by omega) hne he
theorem Tw.hit {m : Nat} {Ks : List (Nat × Nat)} {T : Nat → Int} {ft : Nat → Value} (h : Tw m Ks T ft) (hl : Ks.length = m) {k : Nat × Nat} (hk : k ∈ Ks) (b : Bool) (hb : T (ix Ks k) < 0 → b = true) :
    Tw (m + 1) (Ks ++ [k]) (if b then updI (updI T m (ix Ks k : Nat)) (ix Ks k) m else updI T m (ix Ks k : Nat)) (if b then upd (upd ft m (.int .i64 (ix Ks k : Nat))) (ix Ks k) (.int .i64 m) else upd ft m (.int .i64 (ix Ks k : Nat))) := by
  have hj : ix Ks k < m := by rw [← hl]; exact ix_lt hk
  have hg := ix_get hk
  generalize ix Ks k = j at hj hg hb ⊢
  have last : (Ks ++ [k])[m]? = some k := by rw [List.getElem?_append_right (by omega), hl]; simp
  have T' : ∀ i, i < m → (if b then updI (updI T m j) j m else updI T m j) i = if b = true ∧ i = j then (m : Int) else T i := fun i hi => by
    cases b
    · simp [updI, show i ≠ m by omega]
    · simp [updI, show i ≠ m by omega]
  have Tm : (if b then updI (updI T m j) j m else updI T m j) m = (j : Int) := by cases b <;> simp [updI, show m ≠ j by omega]
  refine ⟨fun i hi => ?_, fun i hi => ?_, fun i i2 hi hi2 hne he => ?_⟩
  · by_cases him : i = m
    · subst him
      rw [Tm]
      cases b <;> simp [upd, show i ≠ j by omega]
    · rw [T' i (by omega)]
      cases b
      · simp [upd, him]; exact h.cell i (by omega)
      · simp only [if_true, true_and]
        by_cases hij : i = j
        · subst hij; rw [upd_same, if_pos rfl]
        · rw [upd_other _ _ _ _ hij, upd_other _ _ _ _ him, if_neg hij]; exact h.cell i (by omega)
  · by_cases him : i = m
    · subst him; rw [Tm]; right; omega
    · rw [T' i (by omega)]
      split
      · right; omega
      · rcases h.rng i (by omega) with h1 | h1
        · exact .inl h1
        · exact .inr (by omega)
  · by_cases him : i = m
    · subst him; rw [Tm]; omega
    · rw [T' i (by omega)]
      split
      · omega
      · rename_i hb2
        by_cases hi2m : i2 = m
        · subst hi2m
          rw [last, List.getElem?_append_left (by omega)] at he
          by_cases hij : i = j
          · subst hij
            cases b
            · have h0 : ¬ T i < 0 := fun h0 => by have := hb h0; cases this
              omega
            · exact absurd ⟨rfl, rfl⟩ hb2
          · exact h.pair i j (by omega) (by omega) hij (he.trans hg.symm)
        · rw [List.getElem?_append_left (by omega), List.getElem?_append_left (by omega)] at he
          exact h.pair i i2 (by omega) (by omega) hne he

set_option maxRecDepth 20000 in
set_option maxHeartbeats 16000000 in
theorem r22_any (N M gI m : Nat) (A : Adr) (w0 : World) (ok : AOk w0.heap.size A gI) (hm : m < N) (hN : N ≤ 4098) (fi fh fo fw ft fv : Nat → Value) (L : List (List UInt8)) (Ks : List (Nat × Nat)) (sz : Nat) (W : World) (evv : Value)
  (hS : St N w0 evv A gI M fi fh fo fw ft fv L Ks sz W) (hl : Ks.length = m) (hz : sz ≤ m) (T : Nat → Int) (hT : Tw m Ks T ft) (h o : Nat) (h1 : fh m = .int .i64 (h : Nat)) (h2 : fo m = .int .u64 (o : Nat)) (hh : h < 9223372036854775808) (ho : o < 18446744073709551616) {v0 v1 v2 v4 v5 v6 v7 v9 v10 v11 v12 v13 v14 v15 v16 v17 v18 v19 v20 v21 v22 v23 v24 v25 v26 v27 v28 v29 v30 v31 v32 v33 v34 v35 v36 v37 v38 v39 v40 v41 v42 v43 v44 v45 v46 v47 v48 v49 v50 v51 v52 v53 v54 v55 v56 v57 v58 v59 v60 v61 v62 v63 v64 v65 v66 v67 v68 v69 v70 v71 v72 v73 v74 v75 v76 v77 v78 v79 v80 v81 v82 v83 v84 v85 v86 v87 v88 v89 v90 v91 v92 v93 v94 v95 v96 v97 v98 v99 v100 v101 v102 v103 v104 v105 v106 v107 v108 v109 v110 v111 v112 v113 v114 v115 v116 v117 v118 v119 v120 v121 v122 v123 v124 v125 v126 v127 v128 v129 v130 v131 v132 v133 v134 v135 v136 v137 v138 v139 v140 v141 v142 v143 v144 v145 v146 v147 v148 v149 v150 v151 v152 v153 v154 v155 v156 v157 v158 v159 v160 v161 v162 v163 v164 v165 v166 v167 v168 v169 v170 v171 v172 v173 v174 v175 v176 v177 v178 v179 v180 v181 v182 v183 v184 v185 v186 v187 v188 v189 v190 v191 v192 v193 v194 v195 v196 v197 v198 v199 v200 v201 v202 v203 v204 v205 v206 v207 v208 v209 v210 v211 v212 v213 v214 v215 v216 v217 v218 v219 v220 : Value} {Q : Exit → Act → World → Prop}
  (hK : ∀ (y13 y14 y15 y132 y133 y134 y135 y136 y137 y138 y139 y140 y141 y142 y143 y144 y145 y146 y147 y148 y149 y150 y151 y152 y153 y154 y155 y156 y157 y158 y159 y160 y161 y162 y163 y164 y165 y166 y167 y168 y169 y170 y171 y172 y173 y174 y175 y176 y177 y178 y179 y180 y181 y182 y183 y184 y185 y186 y187 y188 y189 y190 : Value) (ft' : Nat → Value) (T' : Nat → Int) (sz' : Nat) (W' : World), Hid (sz' ≤ m + 1 ∧ Tw (m + 1) (Ks ++ [(h, o)]) T' ft' ∧ St N w0 evv A gI M fi fh fo fw ft' fv L (Ks ++ [(h, o)]) sz' W') → Q .normal { tmps := List.toArray (v0 :: v1 :: v2 :: (.pointer (some ⟨A.x, 0, none⟩) : Value) :: v4 :: v5 :: v6 :: v7 :: (.int .i64 (m : Int) : Value) :: v9 :: v10 :: v11 :: v12 :: y13 :: y14 :: y15 :: v16 :: v17 :: v18 :: v19 :: v20 :: v21 :: v22 :: v23 :: v24 :: v25 :: v26 :: v27 :: v28 :: v29 :: v30 :: v31 :: v32 :: v33 :: v34 :: v35 :: v36 :: v37 :: v38 :: v39 :: v40 :: v41 :: v42 :: v43 :: v44 :: v45 :: v46 :: v47 :: v48 :: v49 :: v50 :: v51 :: v52 :: v53 :: v54 :: v55 :: v56 :: v57 :: v58 :: v59 :: v60 :: v61 :: v62 :: v63 :: v64 :: v65 :: v66 :: v67 :: v68 :: v69 :: v70 :: v71 :: v72 :: v73 :: v74 :: v75 :: v76 :: v77 :: v78 :: v79 :: v80 :: v81 :: v82 :: v83 :: v84 :: v85 :: v86 :: v87 :: v88 :: v89 :: v90 :: v91 :: v92 :: v93 :: v94 :: v95 :: v96 :: v97 :: v98 :: v99 :: v100 :: v101 :: v102 :: v103 :: v104 :: v105 :: v106 :: v107 :: v108 :: v109 :: v110 :: v111 :: v112 :: v113 :: v114 :: v115 :: v116 :: v117 :: v118 :: v119 :: v120 :: v121 :: v122 :: v123 :: v124 :: v125 :: v126 :: v127 :: v128 :: v129 :: v130 :: v131 :: y132 :: y133 :: y134 :: y135 :: y136 :: y137 :: y138 :: y139 :: y140 :: y141 :: y142 :: y143 :: y144 :: y145 :: y146 :: y147 :: y148 :: y149 :: y150 :: y151 :: y152 :: y153 :: y154 :: y155 :: y156 :: y157 :: y158 :: y159 :: y160 :: y161 :: y162 :: y163 :: y164 :: y165 :: y166 :: y167 :: y168 :: y169 :: y170 :: y171 :: y172 :: y173 :: y174 :: y175 :: y176 :: y177 :: y178 :: y179 :: y180 :: y181 :: y182 :: y183 :: y184 :: y185 :: y186 :: y187 :: y188 :: y189 :: y190 :: v191 :: v192 :: v193 :: v194 :: v195 :: v196 :: v197 :: v198 :: v199 :: v200 :: v201 :: v202 :: v203 :: v204 :: v205 :: v206 :: v207 :: v208 :: v209 :: v210 :: v211 :: v212 :: v213 :: v214 :: v215 :: v216 :: v217 :: v218 :: v219 :: v220 :: []), defers := [] } W') :
  Code.wp Tryf.prog (r22 Tryf.f16) Q { tmps := List.toArray (v0 :: v1 :: v2 :: (.pointer (some ⟨A.x, 0, none⟩) : Value) :: v4 :: v5 :: v6 :: v7 :: (.int .i64 (m : Int) : Value) :: v9 :: v10 :: v11 :: v12 :: v13 :: v14 :: v15 :: v16 :: v17 :: v18 :: v19 :: v20 :: v21 :: v22 :: v23 :: v24 :: v25 :: v26 :: v27 :: v28 :: v29 :: v30 :: v31 :: v32 :: v33 :: v34 :: v35 :: v36 :: v37 :: v38 :: v39 :: v40 :: v41 :: v42 :: v43 :: v44 :: v45 :: v46 :: v47 :: v48 :: v49 :: v50 :: v51 :: v52 :: v53 :: v54 :: v55 :: v56 :: v57 :: v58 :: v59 :: v60 :: v61 :: v62 :: v63 :: v64 :: v65 :: v66 :: v67 :: v68 :: v69 :: v70 :: v71 :: v72 :: v73 :: v74 :: v75 :: v76 :: v77 :: v78 :: v79 :: v80 :: v81 :: v82 :: v83 :: v84 :: v85 :: v86 :: v87 :: v88 :: v89 :: v90 :: v91 :: v92 :: v93 :: v94 :: v95 :: v96 :: v97 :: v98 :: v99 :: v100 :: v101 :: v102 :: v103 :: v104 :: v105 :: v106 :: v107 :: v108 :: v109 :: v110 :: v111 :: v112 :: v113 :: v114 :: v115 :: v116 :: v117 :: v118 :: v119 :: v120 :: v121 :: v122 :: v123 :: v124 :: v125 :: v126 :: v127 :: v128 :: v129 :: v130 :: v131 :: v132 :: v133 :: v134 :: v135 :: v136 :: v137 :: v138 :: v139 :: v140 :: v141 :: v142 :: v143 :: v144 :: v145 :: v146 :: v147 :: v148 :: v149 :: v150 :: v151 :: v152 :: v153 :: v154 :: v155 :: v156 :: v157 :: v158 :: v159 :: v160 :: v161 :: v162 :: v163 :: v164 :: v165 :: v166 :: v167 :: v168 :: v169 :: v170 :: v171 :: v172 :: v173 :: v174 :: v175 :: v176 :: v177 :: v178 :: v179 :: v180 :: v181 :: v182 :: v183 :: v184 :: v185 :: v186 :: v187 :: v188 :: v189 :: v190 :: v191 :: v192 :: v193 :: v194 :: v195 :: v196 :: v197 :: v198 :: v199 :: v200 :: v201 :: v202 :: v203 :: v204 :: v205 :: v206 :: v207 :: v208 :: v209 :: v210 :: v211 :: v212 :: v213 :: v214 :: v215 :: v216 :: v217 :: v218 :: v219 :: v220 :: []), defers := [] } W := by
  have e : (r22 Tryf.f16) = (r22 Tryf.f16) := rfl
  conv at e => rhs; whnf
  rw [e]
  clear e
  have HK : Hid _ := hK
  have OK : Hid (AOk w0.heap.size A gI) := ok
  have i1 : (0 : Int) ≤ (m : Int) := by omega
  have i2 : (m : Int) < (N : Int) := by omega
  have S1 : Hid (St N w0 evv A gI M fi fh fo fw (upd ft m (.int .i64 (-1))) fv L Ks sz (W.setCell ⟨A.tw, m, none⟩ (.int .i64 (-1)))) := hS.setTw ok _ _
  have p1 : W.cell? ⟨A.x, 7, none⟩ = some (.slice (some ⟨A.tw, 0, none⟩) N N) := cell_blk hS.box 7
  have p2 := hS.tw.cell m hm
  have p3 := hS.tw.free m
  have HT : Hid (Tw m Ks T ft) := hT
  obtain ⟨kl, hkl⟩ := kvP_key (h, o) hh ho
  have HKL : Hid (keyOf Tryf.prog 88 (kvP (h, o)) = some kl) := hkl
  clear hS hK ok hT hkl hh ho
  go_upto_region 23 with fail
  obtain ⟨W1, hW1⟩ : ∃ W1, W.setCell ⟨A.tw, m, none⟩ (.int .i64 (-1)) = W1 := ⟨_, rfl⟩
  rw [hW1] at S1 ⊢
  clear hW1 p1 p2 p3
  have p1 : W1.cell? ⟨A.x, 3, none⟩ = some (.slice (some ⟨A.hst, 0, none⟩) N N) := cell_blk S1.out.box 3
  have p2 : W1.cell? ⟨A.x, 4, none⟩ = some (.slice (some ⟨A.own, 0, none⟩) N N) := cell_blk S1.out.box 4
  have p3 : W1.cell? ⟨A.hst, m, none⟩ = some (.int .i64 (h : Nat)) := by rw [S1.out.hst.cell m hm, h1]
  have p4 : W1.cell? ⟨A.own, m, none⟩ = some (.int .u64 (o : Nat)) := by rw [S1.out.own.cell m hm, h2]
  go_region_held3 (fun w' => w'.cell? ⟨A.x, 3, none⟩ = some (.slice (some ⟨A.hst, 0, none⟩) N N) ∧ w'.cell? ⟨A.x, 4, none⟩ = some (.slice (some ⟨A.own, 0, none⟩) N N) ∧ w'.cell? ⟨A.hst, m, none⟩ = some (.int .i64 (h : Nat)) ∧ w'.cell? ⟨A.own, m, none⟩ = some (.int .u64 (o : Nat))) (first | go_keep | exact ⟨ca p1 _, ca p2 _, ca p3 _, ca p4 _⟩)
    (fail)
  obtain ⟨W2, hW2⟩ : ∃ W2, (W1.alloc (Obj.cells #[Value.int IntKind.i64 (h : Int), Value.int IntKind.u64 (o : Int)] 88)).drew = W2 := ⟨_, rfl⟩
  have S2 : Hid (St N w0 evv A gI M fi fh fo fw (upd ft m (.int .i64 (-1))) fv L Ks sz W2 ∧ W2.heap[W1.heap.size]? = some (.cells #[.int .i64 (h : Int), .int .u64 (o : Int)] 88 (0, 0))) := by rw [← hW2]; exact ⟨(S1.out.alloc _).below (Below.refl _ _).drew, heap_alloc_new W1 _⟩
  rw [hW2]
  clear hW2 p1 p2 p3 p4
  have p1 : W2.cell? ⟨A.x, 6, none⟩ = some (.map (some A.f)) := cell_blk S2.out.1.box 6
  have p2 : W2.cell? ⟨W1.heap.size, 0, none⟩ = some (.int .i64 (h : Int)) := cell_blk S2.out.2 0
  have p3 : W2.cell? ⟨W1.heap.size, 1, none⟩ = some (.int .u64 (o : Int)) := cell_blk S2.out.2 1
  by_cases hk : (h, o) ∈ Ks
  · obtain ⟨j, hj0⟩ : ∃ j, ix Ks (h, o) = j := ⟨_, rfl⟩
    have hj : j < m := by rw [← hj0, ← hl]; exact ix_lt hk
    have hr : (Instr.lookup 71 (.map (some A.f)) (.agg #[.int .i64 (h : Int), .int .u64 (o : Int)]) true).run Tryf.prog W2.drew = .ok (.tuple #[.int .i64 (j : Int), .bool true]) W2.drew := by
      have := (S2.out.1.below (Below.refl _ _).drew).fst.hit law88 Tryf.underlying71 HKL.out hk
      rw [hj0] at this
      exact this
    go_wp2_with fail
    go_region_held3 (fun w' => w'.cell? ⟨A.x, 6, none⟩ = some (.map (some A.f)) ∧ w'.cell? ⟨W1.heap.size, 0, none⟩ = some (.int .i64 (h : Int)) ∧ w'.cell? ⟨W1.heap.size, 1, none⟩ = some (.int .u64 (o : Int)) ∧ (Instr.lookup 71 (.map (some A.f)) (.agg #[.int .i64 (h : Int), .int .u64 (o : Int)]) true).run Tryf.prog w' = .ok (.tuple #[.int .i64 (j : Int), .bool true]) w') (first | go_keep | exact ⟨p1, p2, p3, hr⟩)
      (fail)
    clear hr
    obtain ⟨W3, hW3⟩ : ∃ W3, W2.drew = W3 := ⟨_, rfl⟩
    have S3 : Hid (St N w0 evv A gI M fi fh fo fw (upd ft m (.int .i64 (-1))) fv L Ks sz W3) := by rw [← hW3]; exact S2.out.1.below (Below.refl _ _).drew
    rw [hW3]
    clear hW3 p1 p2 p3 S2 S1
    have p1 : W3.cell? ⟨A.x, 7, none⟩ = some (.slice (some ⟨A.tw, 0, none⟩) N N) := cell_blk S3.out.box 7
    have p2 := S3.out.tw.cell m hm
    have p3 := S3.out.tw.free m
    have S4 : Hid (St N w0 evv A gI M fi fh fo fw (upd ft m (.int .i64 (j : Int))) fv L Ks sz (W3.setCell ⟨A.tw, m, none⟩ (.int .i64 (j : Int)))) := by
      have := S3.out.setTw OK.out m (.int .i64 (j : Int))
      rwa [show upd (upd ft m (.int .i64 (-1))) m (.int .i64 (j : Int)) = upd ft m (.int .i64 (j : Int)) from funext fun k => by simp only [upd]; split <;> rfl] at this
    go_upto_region 27 with fail
    obtain ⟨W4, hW4⟩ : ∃ W4, W3.setCell ⟨A.tw, m, none⟩ (.int .i64 (j : Int)) = W4 := ⟨_, rfl⟩
    rw [hW4] at S4 ⊢
    clear hW4 p1 p2 p3 S3
    have p1 : W4.cell? ⟨A.x, 7, none⟩ = some (.slice (some ⟨A.tw, 0, none⟩) N N) := cell_blk S4.out.box 7
    have p2 : W4.cell? ⟨A.tw, j, none⟩ = some (.int .i64 (T j)) := by rw [S4.out.tw.cell j (by omega), upd_other _ _ _ _ (by omega), HT.out.cell j hj]
    have p3 := S4.out.tw.free j
    have i3 : (0 : Int) ≤ (j : Int) := by omega
    have i4 : (j : Int) < (N : Int) := by omega
    by_cases hneg : T j < 0
    · have S5 : Hid (St N w0 evv A gI M fi fh fo fw (upd (upd ft m (.int .i64 (j : Int))) j (.int .i64 (m : Int))) fv L (Ks ++ [(h, o)]) sz (W4.setCell ⟨A.tw, j, none⟩ (.int .i64 (m : Int)))) := by
        have := S4.out.setTw OK.out j (.int .i64 (m : Int))
        exact { this with fst := this.fst.again hk }
      have T5 : Hid (Tw (m + 1) (Ks ++ [(h, o)]) (updI (updI T m j) j m) (upd (upd ft m (.int .i64 (j : Int))) j (.int .i64 (m : Int)))) := by
        have := HT.out.hit hl hk true (fun _ => rfl)
        rw [hj0] at this
        exact this
      go_wp2_with fail
      exact HK.out _ _ _ _ _ _ _ _ _ _ _ _ _ _ _ _ _ _ _ _ _ _ _ _ _ _ _ _ _ _ _ _ _ _ _ _ _ _ _ _ _ _ _ _ _ _ _ _ _ _ _ _ _ _ _ _ _ _ _ _ _ _  _ _ sz _ ⟨by omega, T5.out, S5.out⟩
    · have S5 : Hid (St N w0 evv A gI M fi fh fo fw (upd ft m (.int .i64 (j : Int))) fv L (Ks ++ [(h, o)]) sz W4) := { S4.out with fst := S4.out.fst.again hk }
      have T5 : Hid (Tw (m + 1) (Ks ++ [(h, o)]) (updI T m j) (upd ft m (.int .i64 (j : Int)))) := by
        have := HT.out.hit hl hk false (fun h0 => by rw [hj0] at h0; exact absurd h0 hneg)
        rw [hj0] at this
        exact this
      go_wp2_with fail
      exact HK.out _ _ _ _ _ _ _ _ _ _ _ _ _ _ _ _ _ _ _ _ _ _ _ _ _ _ _ _ _ _ _ _ _ _ _ _ _ _ _ _ _ _ _ _ _ _ _ _ _ _ _ _ _ _ _ _ _ _ _ _ _ _  _ _ sz _ ⟨by omega, T5.out, S5.out⟩
  · have hr : (Instr.lookup 71 (.map (some A.f)) (.agg #[.int .i64 (h : Int), .int .u64 (o : Int)]) true).run Tryf.prog W2.drew = .ok (.tuple #[.int .i64 0, .bool false]) W2.drew := (S2.out.1.below (Below.refl _ _).drew).fst.miss law88 Tryf.underlying71 HKL.out hk
    go_wp2_with fail
    go_region_held3 (fun w' => w'.cell? ⟨A.x, 6, none⟩ = some (.map (some A.f)) ∧ w'.cell? ⟨W1.heap.size, 0, none⟩ = some (.int .i64 (h : Int)) ∧ w'.cell? ⟨W1.heap.size, 1, none⟩ = some (.int .u64 (o : Int)) ∧ (Instr.lookup 71 (.map (some A.f)) (.agg #[.int .i64 (h : Int), .int .u64 (o : Int)]) true).run Tryf.prog w' = .ok (.tuple #[.int .i64 0, .bool false]) w') (first | go_keep | exact ⟨p1, p2, p3, hr⟩)
      (fail)
    clear hr
    obtain ⟨W3, hW3⟩ : ∃ W3, W2.drew = W3 := ⟨_, rfl⟩
    have S3 : Hid (St N w0 evv A gI M fi fh fo fw (upd ft m (.int .i64 (-1))) fv L Ks sz W3 ∧ W3.heap[W1.heap.size]? = some (.cells #[.int .i64 (h : Int), .int .u64 (o : Int)] 88 (0, 0))) := by rw [← hW3]; exact ⟨S2.out.1.below (Below.refl _ _).drew, S2.out.2⟩
    rw [hW3]
    clear hW3 p1 p2 p3 S2 S1
    have p1 : W3.cell? ⟨A.x, 6, none⟩ = some (.map (some A.f)) := cell_blk S3.out.1.box 6
    have p2 : W3.cell? ⟨W1.heap.size, 0, none⟩ = some (.int .i64 (h : Int)) := cell_blk S3.out.2 0
    have p3 : W3.cell? ⟨W1.heap.size, 1, none⟩ = some (.int .u64 (o : Int)) := cell_blk S3.out.2 1
    obtain ⟨W4, hu, hM, hg⟩ := (S3.out.1.below (Below.refl _ _).drew).fst.put law88 Tryf.underlying71 kvP_inj HKL.out hk (by omega) (by omega)
    rw [hl] at hu
    have S4 : Hid (St N w0 evv A gI M fi fh fo fw (upd ft m (.int .i64 (-1))) fv L (Ks ++ [(h, o)]) (sz + 1) W4) := (S3.out.1.below (Below.refl _ _).drew).first OK.out hg hM
    have T4 : Hid (Tw (m + 1) (Ks ++ [(h, o)]) (updI T m (-1)) (upd ft m (.int .i64 (-1)))) := HT.out.miss hl hk
    have hu2 : (Instr.mapUpdate 71 (.map (some A.f)) (.agg #[.int .i64 (h : Int), .int .u64 (o : Int)]) (.int .i64 (m : Int))).run Tryf.prog W3.drew = .ok () W4 := hu
    have hkb : W1.heap.size ≠ A.f := fun e => by have h0 := blk_lt S3.out.2; have h1 := S3.out.2; rw [e] at h1; obtain ⟨D, ⟨es, ck, hb, _⟩, _⟩ := S3.out.1.fst; rw [hb] at h1; cases h1
    have r1 : W4.cell? ⟨A.x, 6, none⟩ = some (.map (some A.f)) := cell_blk S4.out.box 6
    have r0 : W4.heap[W1.heap.size]? = some (.cells #[.int .i64 (h : Int), .int .u64 (o : Int)] 88 (0, 0)) := (hg.block _ (blk_lt S3.out.2) (fun e => hkb (Option.some.inj e))).trans S3.out.2
    have r2 : W4.cell? ⟨W1.heap.size, 0, none⟩ = some (.int .i64 (h : Int)) := cell_blk r0 0
    have r3 : W4.cell? ⟨W1.heap.size, 1, none⟩ = some (.int .u64 (o : Int)) := cell_blk r0 1
    clear hu hM hg r0
    go_wp2_with fail
    go_region_held3 (fun w' => w'.cell? ⟨A.x, 6, none⟩ = some (.map (some A.f)) ∧ w'.cell? ⟨W1.heap.size, 0, none⟩ = some (.int .i64 (h : Int)) ∧ w'.cell? ⟨W1.heap.size, 1, none⟩ = some (.int .u64 (o : Int))) (first | go_keep | exact ⟨p1, p2, p3⟩ | exact ⟨r1, r2, r3⟩)
      (fail)
    exact HK.out _ _ _ _ _ _ _ _ _ _ _ _ _ _ _ _ _ _ _ _ _ _ _ _ _ _ _ _ _ _ _ _ _ _ _ _ _ _ _ _ _ _ _ _ _ _ _ _ _ _ _ _ _ _ _ _ _ _ _ _ _ _  _ _ (sz + 1) _ ⟨by omega, T4.out, S4.out⟩
end Go.Proofs.Qxb6613595aFmt
