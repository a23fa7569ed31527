import Derived.Test.Qxb6613595aFmtOrR22
namespace Go.Proofs.Qxb6613595aFmt
open Go.RowKit Go.Maps
attribute [local go_sem ↓] Go.wp_at_zero Go.wp_at_succ
set_option linter.unusedVariables false

def r11 (fF : Func) : Code := regionAt 11 (rnd fF)
def r12 (fF : Func) : Code := after 11 (rnd fF)
/-- What the rows hold when m events are done. -/
structure Pu (ev : Nat → Ev) (gI m : Nat) (fi fh fo fw ft fv : Nat → Value) (L : List (List UInt8)) (Ks : List (Nat × Nat)) (sz : Nat) : Prop where
  ids : ∀ i, i < m → ∃ q, fi i = .slice (some ⟨gI, q, none⟩) (ev i).ne (ev i).ne ∧ ((ev i).ne = 0 ∨ q = sumE ev i)
  iv : ∀ i, i < m → ∀ p, p < (ev i).ne → ((ev i).E p).1.data.toList ∈ L ∧ fv (sumE ev i + p) = .int .i64 (ix L ((ev i).E p).1.data.toList : Nat)
  hst : ∀ i, i < m → (ev i).host.data.toList ∈ L ∧ fh i = .int .i64 (ix L (ev i).host.data.toList : Nat)
  own : ∀ i, i < m → fo i = .int .u64 (getE (ev i).E (ev i).ne (ev i).host : Nat)
  wt : ∀ i, i < m → ∃ x y : Nat, fw (i * 2) = .int .u64 (x : Nat) ∧ fw (i * 2 + 1) = .int .u64 (y : Nat)
  klen : Ks.length = m
  ks : ∀ i, i < m → Ks[i]? = some (ix L (ev i).host.data.toList, getE (ev i).E (ev i).ne (ev i).host)
  szl : sz ≤ m
  tw : ∃ T, Tw m Ks T ft
  len : L.length ≤ m + sumE ev m
theorem Pu.step {ev : Nat → Ev} {gI m : Nat} {fi fh fo fw ft fv0 : Nat → Value} {L0 : List (List UInt8)} {Ks : List (Nat × Nat)} {sz : Nat} (h : Pu ev gI m fi fh fo fw ft fv0 L0 Ks sz) {L : List (List UInt8)} {fv : Nat → Value} {q : Nat} (hI : Iv q (ev m).E L0 fv0 (ev m).ne L fv) (hq : (ev m).ne = 0 ∨ q = sumE ev m)
    {ft' : Nat → Value} {T' : Nat → Int} {sz' x y : Nat} (hz : sz' ≤ m + 1) (hT : Tw (m + 1) (Ks ++ [(ix (addH L (ev m).host.data.toList) (ev m).host.data.toList, getE (ev m).E (ev m).ne (ev m).host)]) T' ft') :
    Pu ev gI (m + 1) (upd fi m (.slice (some ⟨gI, q, none⟩) (ev m).ne (ev m).ne)) (upd fh m (.int .i64 (ix (addH L (ev m).host.data.toList) (ev m).host.data.toList : Nat))) (upd fo m (.int .u64 (getE (ev m).E (ev m).ne (ev m).host : Nat))) (upd (upd fw (m * 2) (.int .u64 x)) (m * 2 + 1) (.int .u64 y)) ft' fv (addH L (ev m).host.data.toList) (Ks ++ [(ix (addH L (ev m).host.data.toList) (ev m).host.data.toList, getE (ev m).E (ev m).ne (ev m).host)]) sz' := by
  have e1 := Ext.add L (ev m).host.data.toList
  have e2 := hI.ext.trans e1
  refine ⟨fun i hi => ?_, fun i hi p hp => ?_, fun i hi => ?_, fun i hi => ?_, fun i hi => ?_, by simp [h.klen], fun i hi => ?_, hz, ⟨T', hT⟩, ?_⟩
  · by_cases him : i = m
    · subst him; exact ⟨q, upd_same _ _ _, hq⟩
    · rw [upd_other _ _ _ _ him]; exact h.ids i (by omega)
  · by_cases him : i = m
    · subst him
      obtain ⟨h1, h2⟩ := hI.new p hp
      obtain ⟨h3, h4⟩ := e1 _ h1
      have hq' : q = sumE ev i := by omega
      rw [hq'] at h2
      exact ⟨h3, by rw [h4]; exact h2⟩
    · obtain ⟨h1, h2⟩ := h.iv i (by omega) p hp
      obtain ⟨h3, h4⟩ := e2 _ h1
      have : sumE ev i + p < sumE ev m := by have := sumE_mono ev (show i + 1 ≤ m by omega); simp only [sumE] at this; omega
      have hold : fv (sumE ev i + p) = fv0 (sumE ev i + p) := by
        by_cases hlt : sumE ev i + p < q
        · exact hI.old _ hlt
        · exact hI.hi _ (by omega)
      exact ⟨h3, by rw [h4, hold]; exact h2⟩
  · by_cases him : i = m
    · subst him; exact ⟨addH_mem _ _, upd_same _ _ _⟩
    · obtain ⟨h1, h2⟩ := h.hst i (by omega)
      obtain ⟨h3, h4⟩ := e2 _ h1
      exact ⟨h3, by rw [upd_other _ _ _ _ him, h4]; exact h2⟩
  · by_cases him : i = m
    · subst him; exact upd_same _ _ _
    · rw [upd_other _ _ _ _ him]; exact h.own i (by omega)
  · by_cases him : i = m
    · subst him; exact ⟨x, y, by rw [upd_other _ _ _ _ (by omega), upd_same], upd_same _ _ _⟩
    · obtain ⟨a, b, h1, h2⟩ := h.wt i (by omega)
      exact ⟨a, b, by rw [upd_other _ _ _ _ (by omega), upd_other _ _ _ _ (by omega)]; exact h1, by rw [upd_other _ _ _ _ (by omega), upd_other _ _ _ _ (by omega)]; exact h2⟩
  · by_cases him : i = m
    · subst him; rw [List.getElem?_append_right (by rw [h.klen]; omega), h.klen]; simp
    · rw [List.getElem?_append_left (by rw [h.klen]; omega), h.ks i (by omega), (e2 _ (h.hst i (by omega)).1).2]
  · have a1 := (addH_len L (ev m).host.data.toList).2
    have a2 := hI.len
    have a3 := h.len
    simp only [sumE]
    omega

set_option maxRecDepth 20000 in
set_option maxHeartbeats 16000000 in
theorem rnd_any (N M gI m evB C q : Nat) (ev : Nat → Ev) (A : Adr) (w0 : World) (ok : AOk w0.heap.size A gI) (hE : RdEv w0.heap.size w0 evB N ev) (hm : m < N) (hN : N ≤ 4098) (hMM : M = sumE ev N) (hM : M ≤ 1000000) (fi fh fo fw ft fv : Nat → Value) (L : List (List UInt8)) (Ks : List (Nat × Nat)) (sz : Nat) (W : World) (evv : Value)
  (hS : St N w0 evv A gI M fi fh fo fw ft fv L Ks sz W) (hP : Pu ev gI m fi fh fo fw ft fv L Ks sz) (hq : M - sumE ev m = 0 ∨ q = sumE ev m) (hqM : q ≤ M) {v0 v1 v2 v4 v5 v6 v8 v9 v10 v11 v12 v13 v14 v15 v16 v17 v18 v19 v20 v21 v22 v23 v24 v25 v26 v27 v28 v29 v30 v31 v32 v33 v34 v35 v36 v37 v38 v39 v40 v41 v42 v43 v44 v45 v46 v47 v48 v49 v50 v51 v52 v53 v54 v56 v58 v59 v60 v61 v62 v63 v64 v65 v66 v67 v68 v69 v70 v71 v72 v73 v74 v75 v76 v77 v78 v79 v80 v81 v82 v83 v84 v85 v86 v87 v88 v89 v90 v91 v92 v93 v94 v95 v96 v97 v98 v99 v100 v101 v102 v103 v104 v105 v106 v107 v108 v109 v110 v111 v112 v113 v114 v115 v116 v117 v118 v119 v120 v121 v122 v123 v124 v125 v126 v127 v128 v129 v130 v131 v132 v133 v134 v135 v136 v137 v138 v139 v140 v141 v142 v143 v144 v145 v146 v147 v148 v149 v150 v151 v152 v153 v154 v155 v156 v157 v158 v159 v160 v161 v162 v163 v164 v165 v166 v167 v168 v169 v170 v171 v172 v173 v174 v175 v176 v177 v178 v179 v180 v181 v182 v183 v184 v185 v186 v187 v188 v189 v190 v191 v192 v193 v194 v195 v196 v197 v198 v199 v200 v201 v202 v203 v204 v205 v206 v207 v208 v209 v210 v211 v212 v213 v214 v215 v216 v217 v218 v219 v220 : Value} {Q : Exit → Act → World → Prop} {K : Act → World → Prop} (hrest : ∀ a w, Code.wp Tryf.prog (r12 Tryf.f16) Q a w → K a w)
  (hK : ∀ (y8 y9 y10 y11 y12 y13 y14 y15 y59 y60 y61 y62 y63 y64 y65 y66 y67 y68 y69 y70 y71 y72 y73 y74 y75 y76 y77 y78 y79 y80 y81 y82 y83 y84 y85 y86 y87 y88 y89 y90 y91 y92 y93 y94 y95 y96 y97 y98 y99 y100 y101 y102 y103 y104 y105 y106 y107 y108 y109 y110 y111 y112 y113 y114 y115 y116 y117 y118 y119 y120 y121 y122 y123 y124 y125 y126 y127 y128 y129 y130 y131 y132 y133 y134 y135 y136 y137 y138 y139 y140 y141 y142 y143 y144 y145 y146 y147 y148 y149 y150 y151 y152 y153 y154 y155 y156 y157 y158 y159 y160 y161 y162 y163 y164 y165 y166 y167 y168 y169 y170 y171 y172 y173 y174 y175 y176 y177 y178 y179 y180 y181 y182 y183 y184 y185 y186 y187 y188 y189 y190 : Value) (fi fh fo fw ft fv : Nat → Value) (L : List (List UInt8)) (Ks : List (Nat × Nat)) (sz q' : Nat) (W' : World), Hid (St N w0 evv A gI M fi fh fo fw ft fv L Ks sz W' ∧ Pu ev gI (m + 1) fi fh fo fw ft fv L Ks sz ∧ (M - sumE ev (m + 1) = 0 ∨ q' = sumE ev (m + 1)) ∧ q' ≤ M) → Q .normal { tmps := List.toArray (v0 :: v1 :: v2 :: (.pointer (some ⟨A.x, 0, none⟩) : Value) :: v4 :: v5 :: v6 :: ((.slice (some ⟨gI, q', none⟩) (M - sumE ev (m + 1)) (M - sumE ev (m + 1))) : Value) :: y8 :: y9 :: y10 :: y11 :: y12 :: y13 :: y14 :: y15 :: v16 :: v17 :: v18 :: v19 :: v20 :: v21 :: v22 :: v23 :: v24 :: v25 :: v26 :: v27 :: v28 :: v29 :: v30 :: v31 :: v32 :: v33 :: v34 :: v35 :: v36 :: v37 :: v38 :: v39 :: v40 :: v41 :: v42 :: v43 :: v44 :: v45 :: v46 :: v47 :: v48 :: v49 :: v50 :: v51 :: v52 :: v53 :: v54 :: (.slice (some ⟨evB, 0, none⟩) N C : Value) :: v56 :: (.int .i64 (m : Int) : Value) :: v58 :: y59 :: y60 :: y61 :: y62 :: y63 :: y64 :: y65 :: y66 :: y67 :: y68 :: y69 :: y70 :: y71 :: y72 :: y73 :: y74 :: y75 :: y76 :: y77 :: y78 :: y79 :: y80 :: y81 :: y82 :: y83 :: y84 :: y85 :: y86 :: y87 :: y88 :: y89 :: y90 :: y91 :: y92 :: y93 :: y94 :: y95 :: y96 :: y97 :: y98 :: y99 :: y100 :: y101 :: y102 :: y103 :: y104 :: y105 :: y106 :: y107 :: y108 :: y109 :: y110 :: y111 :: y112 :: y113 :: y114 :: y115 :: y116 :: y117 :: y118 :: y119 :: y120 :: y121 :: y122 :: y123 :: y124 :: y125 :: y126 :: y127 :: y128 :: y129 :: y130 :: y131 :: y132 :: y133 :: y134 :: y135 :: y136 :: y137 :: y138 :: y139 :: y140 :: y141 :: y142 :: y143 :: y144 :: y145 :: y146 :: y147 :: y148 :: y149 :: y150 :: y151 :: y152 :: y153 :: y154 :: y155 :: y156 :: y157 :: y158 :: y159 :: y160 :: y161 :: y162 :: y163 :: y164 :: y165 :: y166 :: y167 :: y168 :: y169 :: y170 :: y171 :: y172 :: y173 :: y174 :: y175 :: y176 :: y177 :: y178 :: y179 :: y180 :: y181 :: y182 :: y183 :: y184 :: y185 :: y186 :: y187 :: y188 :: y189 :: y190 :: v191 :: v192 :: v193 :: v194 :: v195 :: v196 :: v197 :: v198 :: v199 :: v200 :: v201 :: v202 :: v203 :: v204 :: v205 :: v206 :: v207 :: v208 :: v209 :: v210 :: v211 :: v212 :: v213 :: v214 :: v215 :: v216 :: v217 :: v218 :: v219 :: v220 :: []), defers := [] } W') :
  Code.wp Tryf.prog (r11 Tryf.f16) (Exit.then K Q) { tmps := List.toArray (v0 :: v1 :: v2 :: (.pointer (some ⟨A.x, 0, none⟩) : Value) :: v4 :: v5 :: v6 :: (.slice (some ⟨gI, q, none⟩) (M - sumE ev m) (M - sumE ev m) : Value) :: v8 :: v9 :: v10 :: v11 :: v12 :: v13 :: v14 :: v15 :: v16 :: v17 :: v18 :: v19 :: v20 :: v21 :: v22 :: v23 :: v24 :: v25 :: v26 :: v27 :: v28 :: v29 :: v30 :: v31 :: v32 :: v33 :: v34 :: v35 :: v36 :: v37 :: v38 :: v39 :: v40 :: v41 :: v42 :: v43 :: v44 :: v45 :: v46 :: v47 :: v48 :: v49 :: v50 :: v51 :: v52 :: v53 :: v54 :: (.slice (some ⟨evB, 0, none⟩) N C : Value) :: v56 :: (.int .i64 (m : Int) : Value) :: v58 :: v59 :: v60 :: v61 :: v62 :: v63 :: v64 :: v65 :: v66 :: v67 :: v68 :: v69 :: v70 :: v71 :: v72 :: v73 :: v74 :: v75 :: v76 :: v77 :: v78 :: v79 :: v80 :: v81 :: v82 :: v83 :: v84 :: v85 :: v86 :: v87 :: v88 :: v89 :: v90 :: v91 :: v92 :: v93 :: v94 :: v95 :: v96 :: v97 :: v98 :: v99 :: v100 :: v101 :: v102 :: v103 :: v104 :: v105 :: v106 :: v107 :: v108 :: v109 :: v110 :: v111 :: v112 :: v113 :: v114 :: v115 :: v116 :: v117 :: v118 :: v119 :: v120 :: v121 :: v122 :: v123 :: v124 :: v125 :: v126 :: v127 :: v128 :: v129 :: v130 :: v131 :: v132 :: v133 :: v134 :: v135 :: v136 :: v137 :: v138 :: v139 :: v140 :: v141 :: v142 :: v143 :: v144 :: v145 :: v146 :: v147 :: v148 :: v149 :: v150 :: v151 :: v152 :: v153 :: v154 :: v155 :: v156 :: v157 :: v158 :: v159 :: v160 :: v161 :: v162 :: v163 :: v164 :: v165 :: v166 :: v167 :: v168 :: v169 :: v170 :: v171 :: v172 :: v173 :: v174 :: v175 :: v176 :: v177 :: v178 :: v179 :: v180 :: v181 :: v182 :: v183 :: v184 :: v185 :: v186 :: v187 :: v188 :: v189 :: v190 :: v191 :: v192 :: v193 :: v194 :: v195 :: v196 :: v197 :: v198 :: v199 :: v200 :: v201 :: v202 :: v203 :: v204 :: v205 :: v206 :: v207 :: v208 :: v209 :: v210 :: v211 :: v212 :: v213 :: v214 :: v215 :: v216 :: v217 :: v218 :: v219 :: v220 :: []), defers := [] } W := by
  have e : (r11 Tryf.f16) = (r11 Tryf.f16) := rfl
  conv at e => rhs; whnf
  rw [e]
  clear e
  have e : (r12 Tryf.f16) = (r12 Tryf.f16) := rfl
  conv at e => rhs; whnf
  rw [e] at hrest
  clear e
  have HK : Hid _ := hK
  have OK : Hid (AOk w0.heap.size A gI) := ok
  have HE : Hid (RdEv w0.heap.size w0 evB N ev) := hE
  have HP : Hid (Pu ev gI m fi fh fo fw ft fv L Ks sz) := hP
  have HS : Hid (St N w0 evv A gI M fi fh fo fw ft fv L Ks sz W) := hS
  have i1 : (0 : Int) ≤ (m : Int) := by omega
  have i2 : (m : Int) < (N : Int) := by omega
  have hsum : sumE ev m + (ev m).ne ≤ M := by
    have := sumE_mono ev (show m + 1 ≤ N by omega)
    simp only [sumE] at this
    omega
  obtain ⟨c0, c1, c2, c3, c4, c5⟩ := (hE.below hS.low).six m hm
  clear hK ok hE hP hS hMM
  obtain ⟨o, ho⟩ : ∃ o, sumE ev m = o := ⟨_, rfl⟩
  obtain ⟨n, hn⟩ : ∃ n, (ev m).ne = n := ⟨_, rfl⟩
  obtain ⟨r, hr⟩ : ∃ r, M - o = r := ⟨_, rfl⟩
  rw [ho, hn] at hsum
  rw [hn] at c1
  rw [ho, hr] at hq ⊢
  have j1 : (0 : Int) ≤ (n : Int) := by omega
  have j2 : (n : Int) ≤ (r : Int) := by omega
  have EN : Hid (sumE ev m = o ∧ (ev m).ne = n ∧ M - o = r) := ⟨ho, hn, hr⟩
  have HQ0 : Hid ((r = 0 ∨ q = o) ∧ q ≤ M) := ⟨hq, hqM⟩
  clear ho hn hr hq hqM
  go_wp2_with fail
  obtain ⟨W1, hW1⟩ : ∃ W1, W.alloc (Obj.cells #[Value.string (ev m).host, Value.slice (some ⟨(ev m).eb, 0, none⟩) n n, Value.string (ev m).text, Value.int IntKind.i64 (ev m).line, Value.string (ev m).file, Value.string (ev m).exec] 31) = W1 := ⟨_, rfl⟩
  have S1 : Hid (St N w0 evv A gI M fi fh fo fw ft fv L Ks sz W1 ∧ Bx W1 W.heap.size (ev m)) := by rw [← hW1]; exact ⟨HS.out.alloc _, by unfold Bx; rw [EN.out.2.1]; exact heap_alloc_new W _⟩
  have hEb : Hid (W.heap.size ∉ gI :: A.list) := fun h => Nat.lt_irrefl _ (HS.out.lt _ h)
  rw [hW1]
  clear hW1 c0 c1 c2 c3 c4 c5
  have p1 : W1.cell? ⟨A.x, 2, none⟩ = some (.slice (some ⟨A.ids, 0, none⟩) N N) := cell_blk S1.out.1.box 2
  have p2 := S1.out.1.ids.cell m hm
  have p3 := S1.out.1.ids.free m
  have ax2 : A.x ≠ A.ids := OK.out.ne.2.1.2.1
  have S2 : Hid (St N w0 evv A gI M (upd fi m (.slice (some ⟨gI, q, none⟩) n n)) fh fo fw ft fv L Ks sz (W1.setCell ⟨A.ids, m, none⟩ (.slice (some ⟨gI, q, none⟩) n n)).drew ∧ Bx (W1.setCell ⟨A.ids, m, none⟩ (.slice (some ⟨gI, q, none⟩) n n)).drew W.heap.size (ev m)) := by
    exact ⟨(S1.out.1.setIds OK.out _ _).below (Below.refl _ _).drew, (S1.out.2.other _ (fun e => hEb.out (by rw [e]; simp [Adr.list]))).below (Below.refl _ _).drew⟩
  have p4 : (W1.setCell ⟨A.ids, m, none⟩ (.slice (some ⟨gI, q, none⟩) n n)).cell? ⟨A.x, 2, none⟩ = some (.slice (some ⟨A.ids, 0, none⟩) N N) := cell_other p1 _ ax2
  go_region_held3 (fun w' => w'.cell? ⟨A.x, 2, none⟩ = some (.slice (some ⟨A.ids, 0, none⟩) N N)) (first | go_keep | exact p1 | exact p4)
    (fail)
  rename_i Kk ak hHeld
  obtain ⟨hq, hqM⟩ := HQ0.out
  obtain ⟨q', hq'⟩ : ∃ q', (if r = n then some ({ block := gI, off := q, spot := none } : Addr) else some { block := gI, off := q + n, spot := none }) = some ⟨gI, q', none⟩ ∧ (r - n = 0 ∨ q' = o + n) ∧ q' ≤ M := by
    by_cases hrn : r = n
    · exact ⟨q, by rw [if_pos hrn], by omega, hqM⟩
    · exact ⟨q + n, by rw [if_neg hrn], by omega, by have := EN.out.2.2; omega⟩
  obtain ⟨hq1, hq2, hq3⟩ := hq'
  rw [hq1]
  have HQ : Hid _ := And.intro hq2 hq3
  clear hq1 hq2 hq3
  refine ak _ _ (wp_seq ?_)
  have hfi : (upd fi m (.slice (some ⟨gI, q, none⟩) n n)) m = .slice (some ⟨gI, q, none⟩) (ev m).ne (ev m).ne := by rw [upd_same, EN.out.2.1]
  have hle : q + (ev m).ne ≤ M := by rw [EN.out.2.1]; have := EN.out.2.2; omega
  have hLL : L.length + (ev m).ne < 1048576 * 2 := by rw [EN.out.2.1]; have := HP.out.len; rw [EN.out.1] at this; omega
  refine inn_any N M gI m q W.heap.size evB C ev A w0 OK.out HE.out hm hN (by omega) hle _ fh fo fw ft fv L Ks sz _ evv S2.out.1 hLL hfi hEb.out S2.out.2 ?_
  intro a0 a1 a2 a3 a4 a5 a6 a7 a8 a9 a10 a11 a12 a13 a14 a15 a16 a17 a18 a19 a20 a21 a22 a23 a24 L2 fv2 W2 hI
  have hlen : L2.length < 1048576 * 2 := by have := hI.out.2.2.len; omega
  refine r19_any N M gI m W.heap.size evB ev A w0 OK.out HE.out hm hN _ fh fo fw ft fv2 L2 Ks sz W2 evv hI.out.1 hlen hEb.out hI.out.2.1 ?_
  intro b0 b1 b2 b3 b4 b5 b6 b7 b8 b9 b10 b11 b12 b13 b14 b15 b16 b17 b18 b19 b20 b21 b22 b23 b24 b25 b26 b27 b28 b29 x y W3 h3
  obtain ⟨T, hT⟩ := HP.out.tw
  have ho : getE (ev m).E (ev m).ne (ev m).host < 18446744073709551616 := by
    unfold getE
    split
    · rename_i hf
      unfold found at hf
      simp at hf
      exact (HE.out.es m hm _ hf.1).2
    · omega
  have hh : ix (addH L2 (ev m).host.data.toList) (ev m).host.data.toList < 9223372036854775808 := by
    have h1 := ix_lt (addH_mem L2 (ev m).host.data.toList)
    have h2 := (addH_len L2 (ev m).host.data.toList).2
    omega
  refine r22_any N M gI m A w0 OK.out hm hN _ _ _ _ ft fv2 _ Ks sz W3 evv h3.out HP.out.klen HP.out.szl T hT _ _ (upd_same _ _ _) (upd_same _ _ _) hh ho ?_
  intro c0 c1 c2 c3 c4 c5 c6 c7 c8 c9 c10 c11 c12 c13 c14 c15 c16 c17 c18 c19 c20 c21 c22 c23 c24 c25 c26 c27 c28 c29 c30 c31 c32 c33 c34 c35 c36 c37 c38 c39 c40 c41 c42 c43 c44 c45 c46 c47 c48 c49 c50 c51 c52 c53 c54 c55 c56 c57 c58 c59 c60 c61 ft' T' sz' W4 h4
  have hP' := HP.out.step hI.out.2.2 (by rw [EN.out.2.1, EN.out.1]; have := EN.out.2.2; omega) (x := x) (y := y) h4.out.1 h4.out.2.1
  have e1 : (Value.slice (some ⟨gI, q, none⟩) (ev m).ne (ev m).ne) = .slice (some ⟨gI, q, none⟩) n n := by rw [EN.out.2.1]
  rw [e1] at hP'
  have e2 : M - sumE ev (m + 1) = r - n := by simp only [sumE]; rw [EN.out.1, EN.out.2.1]; have := EN.out.2.2; omega
  have e3 : sumE ev (m + 1) = o + n := by simp only [sumE]; rw [EN.out.1, EN.out.2.1]
  rw [e2, e3] at HK
  exact HK.out _ _ _ _ _ _ _ _ _ _ _ _ _ _ _ _ _ _ _ _ _ _ _ _ _ _ _ _ _ _ _ _ _ _ _ _ _ _ _ _ _ _ _ _ _ _ _ _ _ _ _ _ _ _ _ _ _ _ _ _ _ _ _ _ _ _ _ _ _ _ _ _ _ _ _ _ _ _ _ _ _ _ _ _ _ _ _ _ _ _ _ _ _ _ _ _ _ _ _ _ _ _ _ _ _ _ _ _ _ _ _ _ _ _ _ _ _ _ _ _ _ _ _ _ _ _ _ _ _ _ _ _ _ _ _ _ _ _ _ _  _ _ _ _ _ _ _ _ sz' q' W4 ⟨h4.out.2.2, hP', HQ.out.1, HQ.out.2⟩
end Go.Proofs.Qxb6613595aFmt
