import Derived.Test.Qxb6608761aEmDig
import Derived.Deep.DeepCutAuto
namespace Go.Proofs.Qxb6608761a
open Go.RowKit Go.Sort
set_option linter.unusedVariables false

set_option maxRecDepth 20000 in
set_option maxHeartbeats 64000000 in
theorem tail50 (p : Option Addr) (N c c1 c2 : Nat) (f : Nat → Nat) (ip : Int) (w1 : World) (h1 : ¬1048576 < N) (H bo oo bi oi : Nat) (h6 : 0 ≤ ip) (E : Nat) (So Si : Nat → Nat × Nat) (g1 : (So H).1 ≤ (Si 0).1) (g2 : E ≤ (So H).2) (hEN : E ≤ N) (hst : (Si 0).1 ≤ E)
  (HF : Hid ((∀ i, i < N → f i < 256) ∧ Rd w1 p N f ∧ (p = none → N = 0))) (p1 p2 p3 : Option Addr) (oB k k2 : Nat) (h2 : ¬ 65536 < k2) (h3 : ¬ 65536 < k) (h7 : ¬ k2 < 2) (h8 : ¬ k < 2) (h10 : ¬ k2 ≤ H)
  (HN : Hid (RdN w1 bo oo k2 So ∧ RdN w1 bi oi k Si ∧ BackN So k2 N ∧ BackN Si k E)) (l' L : List Ent) (f1 : Nat → Nat)
  (HPO : Hid (l'.Perm (heads f (entsOf Si 2 0 k).length (entsOf Si 2 0 k)) ∧ l'.Pairwise (fun x y => cfE f x y ≤ 0) ∧ f1 = mvF f (Si 0).1 (catE f l'))) (HF1 : Hid (∀ i, i < N → f1 i < 256)) (wr wE w12 : World)
  (HOK : Hid (Outer w1.heap.size oB f1 N (entsOf So 1 0 k2) L (So 0).1 (wrap64 (ip + 1)) wr wE ∧ Kw w1 p1 p2 N f f1 wE)) (H12 : Hid (BB w12 wE.heap.size p3 N f ∧ Below wE.heap.size wE w12)) (wc : World) (hcut : Hid (Nb wE p3 N f1 wc)) {v5 v6 v7 v8 v9 v11 v12 v16 v17 v18 v20 v21 v22 v23 v24 v25 v26 v27 v28 v29 v30 v31 v32 v33 v34 v35 v36 v37 v38 v39 v40 v41 v42 v43 v44 v45 v46 v47 v48 v49 v50 v51 v52 v53 v54 v55 v56 v57 v58 v59 v60 v61 v62 v63 v64 v65 v66 v67 v68 v69 v70 v71 v72 v73 v74 v75 v76 v77 v78 v79 v80 v81 v82 v83 v84 v85 v86 v87 v88 v89 v90 v91 v92 v93 v94 v95 v96 v97 v98 v99 v100 v101 v102 v103 v104 v105 v106 v107 v108 v109 v110 v111 v112 v113 v114 v115 v116 v117 v118 v119 v120 v121 v122 v123 v124 v125 v126 v127 v128 v129 v130 v131 v132 v133 v134 v135 v136 v137 v138 v139 v140 v141 v142 v143 v144 v145 v146 v147 v148 v149 v150 v151 v152 v153 v154 v155 v156 v157 v158 v159 v160 v161 v162 v163 v164 v165 v166 v167 v168 v169 v170 v171 v172 v173 v174 v175 v176 v177 v178 v179 v180 v181 v182 v183 v184 v185 v186 v187 v188 v189 v190 v191 v192 v193 v194 v195 v196 v197 v198 v199 v200 v201 v202 v203 v204 v205 v206 v207 v208 v209 v210 v211 v212 v213 v214 v215 v216 v217 v218 v219 v220 v221 v222 v223 v224 v225 v226 v227 v228 v229 v230 v231 v232 v233 v234 v235 v236 v237 v238 v239 v240 v241 v242 v243 v244 v245 v246 v247 v248 v249 v250 v251 v252 v253 v254 v255 v256 v257 v258 v259 v260 v261 v262 v263 v264 v265 v266 v267 v268 v269 v270 v271 v272 v273 v274 v275 v276 v277 v278 v279 v280 v281 v282 v283 v284 v285 v286 v287 v288 v289 v290 v291 v292 v293 v294 v295 v296 v297 v298 v299 v300 v301 v302 v303 v304 v305 v306 v307 v308 v309 v310 v311 v312 v313 v314 v315 v316 v317 v318 v319 v320 v321 v322 v323 v324 v325 v326 v327 v328 v329 v330 v331 v332 v333 v334 v335 v336 v337 v338 v339 v340 v341 v342 v343 v344 v345 v346 : Value} :
    Code.wp Try.prog (law50 Try.f6) (bodyPost Try.prog Try.f6 fun r w' => r = .returned (.bool true) ∧ Below w1.heap.size w1 w') { tmps := List.toArray ((.slice p1 N N : Value) :: (.slice (some ⟨bo, oo, none⟩) k2 c1 : Value) :: (.slice (some ⟨bi, oi, none⟩) k c2 : Value) :: (.int .i64 (H : Int) : Value) :: (.int .i64 ip : Value) :: v5 :: v6 :: v7 :: v8 :: v9 :: (.bool false : Value) :: v11 :: v12 :: (.int .i64 (E : Int) : Value) :: (.slice p2 N N : Value) :: (.pointer (some ⟨oB, 0, none⟩) : Value) :: v16 :: v17 :: v18 :: (.slice p3 N N : Value) :: v20 :: v21 :: v22 :: v23 :: v24 :: v25 :: v26 :: v27 :: v28 :: v29 :: v30 :: v31 :: v32 :: v33 :: v34 :: v35 :: v36 :: v37 :: v38 :: v39 :: v40 :: v41 :: v42 :: v43 :: v44 :: v45 :: v46 :: v47 :: v48 :: v49 :: v50 :: v51 :: v52 :: v53 :: v54 :: v55 :: v56 :: v57 :: v58 :: v59 :: v60 :: v61 :: v62 :: v63 :: v64 :: v65 :: v66 :: v67 :: v68 :: v69 :: v70 :: v71 :: v72 :: v73 :: v74 :: v75 :: v76 :: v77 :: v78 :: v79 :: v80 :: v81 :: v82 :: v83 :: v84 :: v85 :: v86 :: v87 :: v88 :: v89 :: v90 :: v91 :: v92 :: v93 :: v94 :: v95 :: v96 :: v97 :: v98 :: v99 :: v100 :: v101 :: v102 :: v103 :: v104 :: v105 :: v106 :: v107 :: v108 :: v109 :: v110 :: v111 :: v112 :: v113 :: v114 :: v115 :: v116 :: v117 :: v118 :: v119 :: v120 :: v121 :: v122 :: v123 :: v124 :: v125 :: v126 :: v127 :: v128 :: v129 :: v130 :: v131 :: v132 :: v133 :: v134 :: v135 :: v136 :: v137 :: v138 :: v139 :: v140 :: v141 :: v142 :: v143 :: v144 :: v145 :: v146 :: v147 :: v148 :: v149 :: v150 :: v151 :: v152 :: v153 :: v154 :: v155 :: v156 :: v157 :: v158 :: v159 :: v160 :: v161 :: v162 :: v163 :: v164 :: v165 :: v166 :: v167 :: v168 :: v169 :: v170 :: v171 :: v172 :: v173 :: v174 :: v175 :: v176 :: v177 :: v178 :: v179 :: v180 :: v181 :: v182 :: v183 :: v184 :: v185 :: v186 :: v187 :: v188 :: v189 :: v190 :: v191 :: v192 :: v193 :: v194 :: v195 :: v196 :: v197 :: v198 :: v199 :: v200 :: v201 :: v202 :: v203 :: v204 :: v205 :: v206 :: v207 :: v208 :: v209 :: v210 :: v211 :: v212 :: v213 :: v214 :: v215 :: v216 :: v217 :: v218 :: v219 :: v220 :: v221 :: v222 :: v223 :: v224 :: v225 :: v226 :: v227 :: v228 :: v229 :: v230 :: v231 :: v232 :: v233 :: v234 :: v235 :: v236 :: v237 :: v238 :: v239 :: v240 :: v241 :: v242 :: v243 :: v244 :: v245 :: v246 :: v247 :: v248 :: v249 :: v250 :: v251 :: v252 :: v253 :: v254 :: v255 :: v256 :: v257 :: v258 :: v259 :: v260 :: v261 :: v262 :: v263 :: v264 :: v265 :: v266 :: v267 :: v268 :: v269 :: v270 :: v271 :: v272 :: v273 :: v274 :: v275 :: v276 :: v277 :: v278 :: v279 :: v280 :: v281 :: v282 :: v283 :: v284 :: v285 :: v286 :: v287 :: v288 :: v289 :: v290 :: v291 :: v292 :: v293 :: v294 :: v295 :: v296 :: v297 :: v298 :: v299 :: v300 :: v301 :: v302 :: v303 :: v304 :: v305 :: v306 :: v307 :: v308 :: v309 :: v310 :: v311 :: v312 :: v313 :: v314 :: v315 :: v316 :: v317 :: v318 :: v319 :: v320 :: v321 :: v322 :: v323 :: v324 :: v325 :: v326 :: v327 :: v328 :: v329 :: v330 :: v331 :: v332 :: v333 :: v334 :: v335 :: v336 :: v337 :: v338 :: v339 :: v340 :: v341 :: v342 :: v343 :: v344 :: v345 :: v346 :: []), defers := [] } wc := by
  have e : (law50 Try.f6) = (law50 Try.f6) := rfl
  conv at e => rhs; whnf
  rw [e]
  clear e
  have hO := HOK.out.1
  have hkE := HOK.out.2
  have hel : (entsOf So 1 0 k2).length = k2 := entsOf_length So 1 0 k2
  obtain ⟨q0, c0', ho0⟩ := hO.o0
  obtain ⟨gp, cp, ho1, ho1'⟩ := hO.o1
  obtain ⟨gs, cs, ho2, ho2'⟩ := hO.o2
  have ho3 := hO.o3
  rw [hel] at ho1' ho2 ho2'
  have tr : ∀ (W' : World), Nb wE p3 N f1 W' → ∀ (a : Addr) (v : Value), wE.cell? a = some v → W'.cell? a = some v := fun W' hW a v h => (hW.below.cell (World.block_lt_of_cell? _ _ h)).trans h
  have HEQ : Hid (∀ W' : World, Nb wE p3 N f1 W' → Calls Try.prog 24 #[.slice p1 N N, .slice p3 N N] W' fun r w' => r = .returned (.bool true) ∧ Hid (Nb wE p3 N f1 w')) := fun W' hW => by
    refine (equal_any p1 p3 N N N N f1 f1 W' (by omega) (hkE.body.below hW.below).rd hW.nb.rd).mono ?_
    rintro r w' ⟨h1, j, h2⟩
    rw [eqB_same] at h1
    exact ⟨h1, by rw [h2]; exact hW.next (below_drewN (Below.refl _ _) _)⟩
  have H26 : Hid (∀ W' : World, Nb wE p3 N f1 W' → Calls Try.prog 26 #[.pointer (some ⟨oB, 0, none⟩)] W' fun r w' => r = .returned (.int .i64 1) ∧ w' = W') := fun W' hW => pendLen_any oB 1 cp _ W' (tr W' hW _ _ ho1)
  have H25 : Hid (∀ W' : World, Nb wE p3 N f1 W' → Calls Try.prog 25 #[.pointer (some ⟨oB, 0, none⟩)] W' fun r w' => r = .returned (.int .i64 0) ∧ w' = W') := fun W' hW => openLen_any oB 0 c0' q0 W' (tr W' hW _ _ ho0)
  have H28 : Hid (∀ W' : World, Nb wE p3 N f1 W' → Calls Try.prog 28 #[.pointer (some ⟨oB, 0, none⟩)] W' fun r w' => r = .returned (.int .i64 (wrap64 (ip + 1))) ∧ w' = W') := fun W' hW => inPlace_any oB _ W' (tr W' hW _ _ ho3)
  have H27 : Hid (∀ W' : World, Nb wE p3 N f1 W' → Calls Try.prog 27 #[.pointer (some ⟨oB, 0, none⟩)] W' fun r w' => r = .returned (.int .i64 (k2 : Int)) ∧ w' = W') := fun W' hW => sortedLen_any oB k2 cs _ W' (tr W' hW _ _ ho2)
  have H30 : Hid (∀ W' : World, Nb wE p3 N f1 W' → Calls Try.prog 30 #[.pointer (some ⟨oB, 0, none⟩), .int .i64 0] W' fun r w' => r = .returned (.tuple #[.int .i64 ((So 0).1 : Int), .int .i64 (N : Int), .int .i64 0, .int .i64 (k2 : Int), .int .i64 1]) ∧ Hid (Nb wE p3 N f1 w') ∧ w'.cell? ⟨bo, oo, none⟩ = some (.int .i64 ((So 0).1 : Int))) := fun W' hW => by
    refine (pendAt_any oB gp cp (So 0).1 N 0 k2 1 W' (tr W' hW _ _ ho1) (fun j hj => by
      have h := ho1' j hj
      have hs : ∃ v, (pendL (So 0).1 N 0 k2 1)[j]? = some v := ⟨_, List.getElem?_eq_getElem (by simp [pendL]; omega)⟩
      obtain ⟨v, hv⟩ := hs
      rw [hv] at h ⊢
      exact tr W' hW _ _ h)).mono ?_
    rintro r w' ⟨h1, h2⟩
    have hn := hW.next h2
    refine ⟨h1, hn, ?_⟩
    have h := ((HN.out.1.below (hkE.low.trans (hn.below.mono hkE.low.size))) 0 (by omega)).1
    rw [Nat.zero_mul, Nat.add_zero] at h; exact h
  have HMS : Hid (∀ W' : World, Nb wE p3 N f1 W' → Calls Try.prog 23 #[.slice p3 N N, .slice (some ⟨bo, oo, none⟩) k2 c1, .bool true] W' fun e w' => ∃ b T, e = .returned (.slice (some ⟨b, 0, none⟩) k2 k2) ∧ Hid (w'.heap[b]? = some (.cells (rowS k2 T) 47 (0, 0)) ∧ (seg T 0 k2).Perm (seg So 0 k2) ∧ (seg T 0 k2).Pairwise (fun x z => leS f1 true x z = true)) ∧ Hid (Nb wE p3 N f1 w')) := fun W' hW => by
    refine (merge_any p3 N N f1 true ⟨bo, oo, none⟩ k2 c1 So W' (by omega) (Nat.le_refl _) (by omega) hW.nb.rd (fun h => ⟨hW.nb.nil h, hW.nb.nil h⟩) (by omega) (HN.out.1.below (hkE.low.trans (hW.below.mono hkE.low.size))).toS (HN.out.2.2.1.fits N (Nat.le_refl _))).mono ?_
    rintro e w' ⟨b, T, h1, h2⟩
    exact ⟨b, T, h1, ⟨h2.blk, h2.perm, h2.sorted⟩, hW.next h2.below⟩
  have H31 : Hid (∀ (W' : World) (k4 : Nat) (x : Ent), Nb wE p3 N f1 W' → k4 < k2 → L[k4]? = some x → Calls Try.prog 31 #[.pointer (some ⟨oB, 0, none⟩), .int .i64 (k4 : Int)] W' fun r w' => r = .returned (.tuple #[.int .i64 (x.s : Int), .int .i64 (x.e : Int)]) ∧ ∃ j, w' = W'.drewN j) := fun W' k4 x hW hk hx => by
    refine sortedAt_any oB gs k2 cs k4 x.s x.e W' (tr W' hW _ _ ho2) hk (tr W' hW _ _ ?_) (tr W' hW _ _ ?_)
    · rw [ho2' _ (by omega), Nat.mul_comm]; exact flatE_get _ k4 0 x hx (by omega)
    · rw [ho2' _ (by omega), Nat.mul_comm]; exact flatE_get _ k4 1 x hx (by omega)
  have HPL : Hid _ := And.intro hO.perm hO.order
  have HLO : Hid (∀ W' : World, Nb wE p3 N f1 W' → Below w1.heap.size w1 W' ∧ RdN W' bo oo k2 So) := fun W' hW => ⟨hkE.low.trans (hW.below.mono hkE.low.size), HN.out.1.below (hkE.low.trans (hW.below.mono hkE.low.size))⟩
  clear hO hkE ho0 ho1 ho1' ho2 ho2' ho3 tr hel HOK H12 HF HF1 HPO
  go_wp2_with fail
  go_at_call 24
  refine (HEQ.out _ hcut.out).mono ?_
  rintro e w15 ⟨rfl, HB15⟩
  clear HEQ
  go_wp2_with fail
  go_at_call 26
  refine (H26.out _ HB15.out).mono ?_
  rintro e w16 ⟨rfl, rfl⟩
  go_wp2_with fail
  go_at_call 25
  refine (H25.out _ HB15.out).mono ?_
  rintro e w16 ⟨rfl, rfl⟩
  go_wp2_with fail
  go_at_call 28
  refine (H28.out _ HB15.out).mono ?_
  rintro e w16 ⟨rfl, rfl⟩
  go_wp2_with fail
  go_at_call 30
  refine (H30.out _ HB15.out).mono ?_
  rintro e w17 ⟨rfl, HB17, zo⟩
  go_wp2_with fail
  go_at_call 27
  refine (H27.out _ HB17.out).mono ?_
  rintro e w16 ⟨rfl, rfl⟩
  go_wp2_with fail
  go_at_call 23
  refine (HMS.out _ HB17.out).mono ?_
  rintro e w18 ⟨bT, T, rfl, HT18, HB18⟩
  clear H26 H25 H28 H30 H27 HMS zo hcut HB15 HB17
  have mk := makeS k2 (by omega)
  go_wp2
  clear mk
  go_loopw [27] (fun i wr => ∃ (k4 : Nat) (G : Nat → Nat × Nat), k4 ≤ k2 ∧ i = .int .i64 k4 ∧ Hid (wr.heap[w18.heap.size]? = some (.cells (rowS k2 G) 47 (0, 0)) ∧ (∀ i x, i < k4 → L[i]? = some x → G i = pr x) ∧ Below w18.heap.size w18 wr)) (fun i _ => k2 - (intOf i).toNat)
  case atStart => exact ⟨0, _, by omega, rfl, heap_alloc_new w18 _, fun i x h => by omega, below_box _ _⟩
  case round =>
    obtain ⟨k4, G, hk4, rfl, HG⟩ := hrel
    by_cases hlt : k4 < k2
    · obtain ⟨x, hx, hkey, jx, hjx, hxs, hxe⟩ := outer_at HPL.out.1 HPL.out.2 HT18.out.2.1 HT18.out.2.2 k4 hlt
      obtain ⟨xs, xe, xp, xh⟩ := x
      simp only at hxs hxe
      have hx1 : xs ≤ xe := by rw [hxs, hxe]; exact HN.out.2.2.1.fst jx hjx
      have hx2 : xe ≤ N := by rw [hxe]; exact HN.out.2.2.1.le jx hjx
      have hT1 := (Fits.perm (HN.out.2.2.1.fits N (Nat.le_refl _)) HT18.out.2.1) k4 hlt
      obtain ⟨hgb, hgG, hgl⟩ := HG.out
      have hNr : Nb wE p3 N f1 wr := HB18.out.next hgl
      have hTr : wr.heap[bT]? = some (.cells (rowS k2 T) 47 (0, 0)) := by rw [hgl.block bT (blk_lt HT18.out.1)]; exact HT18.out.1
      obtain ⟨t1, ht1⟩ : ∃ t1, t1 = (T k4).1 := ⟨_, rfl⟩
      obtain ⟨t2, ht2⟩ : ∃ t2, t2 = (T k4).2 := ⟨_, rfl⟩
      have cc0 : wr.cell? ⟨bT, k4 * 2, none⟩ = some (.int .i64 (t1 : Int)) := by rw [cell_blk hTr, Nat.mul_comm, ht1]; exact rowS_fst T hlt
      have cc1 : wr.cell? ⟨bT, k4 * 2 + 1, none⟩ = some (.int .i64 (t2 : Int)) := by rw [cell_blk hTr, Nat.mul_comm, ht2]; exact rowS_snd T hlt
      have g0 : wr.cell? ⟨w18.heap.size, k4 * 2, none⟩ = some (.int .i64 ((G k4).1 : Int)) := by rw [cell_blk hgb, Nat.mul_comm]; exact rowS_fst G hlt
      have g1' : wr.cell? ⟨w18.heap.size, k4 * 2 + 1, none⟩ = some (.int .i64 ((G k4).2 : Int)) := by rw [cell_blk hgb, Nat.mul_comm]; exact rowS_snd G hlt
      have fr0 : wr.frozen? ⟨w18.heap.size, k4 * 2, none⟩ = false := free_blk hgb _
      have fr1 : wr.frozen? ⟨w18.heap.size, k4 * 2 + 1, none⟩ = false := free_blk hgb _
      rw [← ht1, ← ht2] at hT1
      obtain ⟨hT1a, hT1b⟩ := hT1
      have hkey' : keyOf f1 (xs, xe) = keyOf f1 (t1, t2) := by rw [ht1, ht2]; exact hkey
      have hEqB := eqB_keys hkey'
      simp only at hEqB
      have HC31 : Hid _ := H31.out wr k4 ⟨xs, xe, xp, xh⟩ hNr hlt hx
      have nx1 : ¬ xe < xs := by omega
      have nx2 : ¬ N < xe := by omega
      have HST : Hid (∀ W' : World, (W'.heap = wr.heap ∧ W'.os = wr.os ∧ W'.tape = wr.tape ∧ W'.output = wr.output) → (((W'.setCell ⟨w18.heap.size, k4 * 2, none⟩ (.int .i64 (xs : Int))).setCell ⟨w18.heap.size, k4 * 2 + 1, none⟩ (.int .i64 (xe : Int))).heap[w18.heap.size]? = some (.cells (rowS k2 (put G k4 (xs, xe))) 47 (0, 0)) ∧ (∀ i x, i < k4 + 1 → L[i]? = some x → put G k4 (xs, xe) i = pr x) ∧ Below w18.heap.size w18 ((W'.setCell ⟨w18.heap.size, k4 * 2, none⟩ (.int .i64 (xs : Int))).setCell ⟨w18.heap.size, k4 * 2 + 1, none⟩ (.int .i64 (xe : Int))))) := fun W' hW => by
        have h := got_store (wr := W') (k4 := k4) (by rw [hW.1]; exact hgb) (⟨hW.2.1.trans hgl.os, hW.2.2.1.trans hgl.tape, hW.2.2.2.trans hgl.output, by rw [hW.1]; exact hgl.size, fun b hb => by rw [hW.1]; exact hgl.block b hb⟩) (Nat.le_refl _) (xs, xe)
        refine ⟨h.1, fun i x hi hx' => ?_, h.2⟩
        by_cases e : i = k4
        · subst e; rw [put_at]; rw [hx] at hx'; cases hx'; rfl
        · rw [put_ne _ _ _ e]; exact hgG i x (by omega) hx'
      have HNR : Hid _ := hNr
      clear hx hkey hxs hxe hgb hgG hgl hNr hTr ht1 ht2 hkey' HG
      go_wp2_with fail
      go_at_call 31
      refine Calls.mono HC31.out ?_
      rintro e w20 ⟨rfl, j20, hw20⟩
      have HW20 : Hid (w20.heap = wr.heap ∧ w20.os = wr.os ∧ w20.tape = wr.tape ∧ w20.output = wr.output) := by rw [hw20]; exact ⟨rfl, rfl, rfl, rfl⟩
      have dd0 : w20.cell? ⟨bT, k4 * 2, none⟩ = some (.int .i64 (t1 : Int)) := by rw [hw20]; exact cc0
      have dd1 : w20.cell? ⟨bT, k4 * 2 + 1, none⟩ = some (.int .i64 (t2 : Int)) := by rw [hw20]; exact cc1
      have eg0 : w20.cell? ⟨w18.heap.size, k4 * 2, none⟩ = some (.int .i64 ((G k4).1 : Int)) := by rw [hw20]; exact g0
      have eg1 : w20.cell? ⟨w18.heap.size, k4 * 2 + 1, none⟩ = some (.int .i64 ((G k4).2 : Int)) := by rw [hw20]; exact g1'
      have ef0 : w20.frozen? ⟨w18.heap.size, k4 * 2, none⟩ = false := by rw [hw20]; exact fr0
      have ef1 : w20.frozen? ⟨w18.heap.size, k4 * 2 + 1, none⟩ = false := by rw [hw20]; exact fr1
      have HN20 : Hid (Nb wE p3 N f1 w20) := by rw [hw20]; exact HNR.out.next (below_drewN (Below.refl _ _) _)
      clear HC31 hw20 cc0 cc1 g0 g1' fr0 fr1 HNR
      go_upto_region 67 with fail
      go_cut [322] (fun s wx => s = .bool false ∧ ∃ j, wx = w20.drewN j)
      case first =>
        have hNr := HN20.out
        cases p3 with
        | none =>
          have hN0 := hNr.nb.nil rfl
          have HE : Hid (∀ (W' : World) (c d : Nat), Calls Try.prog 24 #[.slice none (xe - xs) c, .slice none (t2 - t1) d] W' fun e w' => e = .returned (.bool true) ∧ ∃ j, w' = W'.drewN j) := fun W' c d => by
            have h := equal_any none none (xe - xs) (t2 - t1) c d (fun i => f1 (xs + i)) (fun i => f1 (t1 + i)) W' (by omega) (fun i hi => by omega) (fun i hi => by omega)
            rwa [hEqB] at h
          have HN0 : Hid _ := hN0
          clear hNr hN0 HN20 HB18
          go_quiet (refine Calls.quiet_of (HE.out _ _ _))
          go_wp2
          all_goals go_meet
          all_goals exact ⟨rfl, _, rfl⟩
        | some y =>
          have r1 := hNr.nb.rd.sub xs xe hx2 (Nat.le_refl _)
          have r2 := hNr.nb.rd.sub t1 t2 hT1b (Nat.le_refl _)
          have HE : Hid (∀ (W' : World), Below w20.heap.size w20 W' → Calls Try.prog 24 #[.slice (if N = xs then some y else some (y.add xs)) (xe - xs) (N - xs), .slice (if N = t1 then some y else some (y.add t1)) (t2 - t1) (N - t1)] W' fun e w' => e = .returned (.bool true) ∧ ∃ j, w' = W'.drewN j) := fun W' hW => by
            have h := equal_any _ _ (xe - xs) (t2 - t1) (N - xs) (N - t1) _ _ W' (by omega) (r1.below hW) (r2.below hW)
            rwa [hEqB] at h
          clear hNr r1 r2 HN20 HB18
          go_quiet (refine Calls.quiet_of (HE.out _ (by exact ⟨rfl, rfl, rfl, Nat.le_refl _, fun _ _ => rfl⟩)))
          generalize (if N = xs then some y else some (y.add xs)) = q1
          generalize (if N = t1 then some y else some (y.add t1)) = q2
          go_wp2
          all_goals go_meet
          all_goals exact ⟨rfl, _, rfl⟩
      case rest =>
        obtain ⟨rfl, j21, rfl⟩ := hcut
        go_wp2
        go_roundw
        case rel => exact ⟨k4 + 1, _, hlt, by go_num, HST.out _ HW20.out⟩
        case measure => simp [intOf]; omega
    · obtain rfl : k4 = k2 := by omega
      obtain ⟨hgb, hgG, hgl⟩ := HG.out
      have hNr : Nb wE p3 N f1 wr := HB18.out.next hgl
      have hgp := got_perm HPL.out.1 hgG
      have HM3 : Hid (Calls Try.prog 23 #[.slice p3 N N, .slice (some ⟨w18.heap.size, 0, none⟩) k4 k4, .bool false] wr fun e w' => ∃ b T3, e = .returned (.slice (some ⟨b, 0, none⟩) k4 k4) ∧ Hid (w'.heap[b]? = some (.cells (rowS k4 T3) 47 (0, 0)) ∧ (∀ i, i < k4 → T3 i = So i) ∧ Nb wE p3 N f1 w')) := by
        refine (merge_any p3 N N f1 false ⟨w18.heap.size, 0, none⟩ k4 k4 G wr (by omega) (Nat.le_refl _) (by omega) hNr.nb.rd (fun h => ⟨hNr.nb.nil h, hNr.nb.nil h⟩) (by omega) (fun j hj => by rw [Addr.add_lit, cell_blk hgb, Nat.zero_add]; exact rowS_get _ _ _ hj) (Fits.perm (HN.out.2.2.1.fits N (Nat.le_refl _)) hgp)).mono ?_
        rintro e w' ⟨b, T3, h1, h2⟩
        exact ⟨b, T3, h1, h2.blk, place_eq HN.out.2.2.1 (h2.perm.trans hgp) h2.sorted, hNr.next h2.below⟩
      clear hgb hgG hgl hNr hgp HG HB18 HT18 H31 HPL
      go_wp2_with fail
      go_at_call 23
      refine Calls.mono HM3.out ?_
      rintro e w22 ⟨b3, T3, rfl, H22⟩
      clear HM3
      go_wp2
      go_loopw [31] (fun i wr => ∃ (k5 : Nat), k5 ≤ k4 ∧ i = .int .i64 k5 ∧ ∃ j, wr = w22.drewN j) (fun i _ => k4 - (intOf i).toNat)
      case atStart => exact ⟨0, by omega, rfl, 0, rfl⟩
      case round =>
        obtain ⟨k5, hk5, rfl, j5, rfl⟩ := hrel
        by_cases hlt5 : k5 < k4
        · obtain ⟨h3b, h3s, h3n⟩ := H22.out
          obtain ⟨y0, y1⟩ := (HLO.out w22 h3n).2 k5 hlt5
          obtain ⟨s1, hs1⟩ : ∃ s1, s1 = (So k5).1 := ⟨_, rfl⟩
          obtain ⟨s2, hs2⟩ : ∃ s2, s2 = (So k5).2 := ⟨_, rfl⟩
          rw [← hs1] at y0
          rw [← hs2] at y1
          have z0 : w22.cell? ⟨b3, k5 * 2, none⟩ = some (.int .i64 (s1 : Int)) := by rw [cell_blk h3b, Nat.mul_comm, rowS_fst T3 hlt5, h3s k5 hlt5, hs1]
          have z1 : w22.cell? ⟨b3, k5 * 2 + 1, none⟩ = some (.int .i64 (s2 : Int)) := by rw [cell_blk h3b, Nat.mul_comm, rowS_snd T3 hlt5, h3s k5 hlt5, hs2]
          have hq := neqS
          have hg := guard47
          clear h3b h3s h3n hs1 hs2
          go_wp2
          go_quiet (fail)
          go_wp2
          go_roundw
          case rel => exact ⟨k5 + 1, hlt5, by go_num, _, rfl⟩
          case measure => simp [intOf]; omega
        · obtain rfl : k5 = k4 := by omega
          go_wp2
          go_ret
          exact ⟨rfl, below_drewN (HLO.out w22 H22.out.2.2).1 _⟩

end Go.Proofs.Qxb6608761a
