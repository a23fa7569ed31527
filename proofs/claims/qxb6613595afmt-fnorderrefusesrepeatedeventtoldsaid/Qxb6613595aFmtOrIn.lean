import Derived.Test.Qxb6613595aFmtOrIdx
import Derived.Deep.RegionHeld3
import Derived.Deep.DrawnRows
import Derived.Deep.LoopGhost
import Derived.Deep.DeepCutAuto
namespace Go.Proofs.Qxb6613595aFmt
open Go.RowKit Go.Maps
attribute [local go_sem ↓] Go.wp_at_zero Go.wp_at_succ
set_option linter.unusedVariables false

def fstC : Code → Code
  | .seq a _ => a
  | c => c
def sndC : Code → Code
  | .seq _ b => b
  | c => c
def inB : Code → Code
  | .block _ c => c
  | c => c
def inL : Code → Code
  | .loop c => c
  | c => c
/-- The round of indexRun's main loop; its inner loop; what follows that. -/
def rnd (fF : Func) : Code := inB (fstC (sndC (sndC (inL (inB (sndC (fstC (after 8 (fF.body.getD .skip)))))))))
def inn (fF : Func) : Code := fstC (after 13 (rnd fF))
def r19 (fF : Func) : Code := sndC (after 13 (rnd fF))
def r23 (fF : Func) : Code := after 22 (r19 fF)

def Ext (L0 L : List (List UInt8)) : Prop := ∀ t, t ∈ L0 → t ∈ L ∧ ix L t = ix L0 t
theorem Ext.refl (L : List (List UInt8)) : Ext L L := fun t h => ⟨h, rfl⟩
theorem Ext.trans {a b c : List (List UInt8)} (h : Ext a b) (k : Ext b c) : Ext a c := fun t ht => ⟨(k t (h t ht).1).1, (k t (h t ht).1).2.trans (h t ht).2⟩
theorem Ext.add (L : List (List UInt8)) (s : List UInt8) : Ext L (addH L s) := fun t h => addH_idx L s t h
/-- The numbers of an event's entries' hosts, so far. -/
structure Iv (o : Nat) (E : Nat → ByteArray × Nat) (L0 : List (List UInt8)) (fv0 : Nat → Value) (p : Nat) (L : List (List UInt8)) (fv : Nat → Value) : Prop where
  ext : Ext L0 L
  len : L.length ≤ L0.length + p
  old : ∀ j, j < o → fv j = fv0 j
  hi : ∀ j, o + p ≤ j → fv j = fv0 j
  new : ∀ q, q < p → (E q).1.data.toList ∈ L ∧ fv (o + q) = .int .i64 (ix L (E q).1.data.toList : Nat)
theorem Iv.step {o : Nat} {E : Nat → ByteArray × Nat} {L0 : List (List UInt8)} {fv0 : Nat → Value} {p : Nat} {L : List (List UInt8)} {fv : Nat → Value} (h : Iv o E L0 fv0 p L fv) :
    Iv o E L0 fv0 (p + 1) (addH L (E p).1.data.toList) (upd fv (o + p) (.int .i64 (ix (addH L (E p).1.data.toList) (E p).1.data.toList : Nat))) := by
  have ha := Ext.add L (E p).1.data.toList
  refine ⟨h.ext.trans ha, by have := (addH_len L (E p).1.data.toList).2; have := h.len; omega, fun j hj => by rw [upd_other _ _ _ _ (by omega)]; exact h.old j hj, fun j hj => by rw [upd_other _ _ _ _ (by omega)]; exact h.hi j (by omega), fun q hq => ?_⟩
  by_cases hqp : q = p
  · subst hqp; exact ⟨addH_mem _ _, upd_same _ _ _⟩
  · obtain ⟨h1, h2⟩ := h.new q (by omega)
    obtain ⟨h3, h4⟩ := ha _ h1
    exact ⟨h3, by rw [upd_other _ _ _ _ (by omega), h4]; exact h2⟩
/-- The round's own copy of its event. -/
def Bx (W : World) (Eb : Nat) (e : Ev) : Prop := W.heap[Eb]? = some (.cells #[.string e.host, .slice (some ⟨e.eb, 0, none⟩) e.ne e.ne, .string e.text, .int .i64 e.line, .string e.file, .string e.exec] 31 (0, 0))

set_option maxRecDepth 20000 in
set_option maxHeartbeats 16000000 in
theorem inn_any (N M gI m o Eb evB C : Nat) (ev : Nat → Ev) (A : Adr) (w0 : World) (ok : AOk w0.heap.size A gI) (hE : RdEv w0.heap.size w0 evB N ev) (hm : m < N) (hN : N ≤ 4098) (hM : M ≤ 1048576) (ho : o + (ev m).ne ≤ M) (fi fh fo fw ft fv0 : Nat → Value) (L0 : List (List UInt8)) (Ks : List (Nat × Nat)) (sz : Nat) (W : World) (evv : Value)
  (hS : St N w0 evv A gI M fi fh fo fw ft fv0 L0 Ks sz W) (hL : L0.length + (ev m).ne < 1048576 * 2) (hfi : fi m = .slice (some ⟨gI, o, none⟩) (ev m).ne (ev m).ne) (hEb : Eb ∉ gI :: A.list) (hB : Bx W Eb (ev m)) {v0 v1 v2 v4 v5 v6 v7 v10 v11 v12 v13 v14 v15 v16 v17 v18 v19 v20 v21 v22 v23 v24 v25 v26 v27 v28 v29 v30 v31 v32 v33 v34 v35 v36 v37 v38 v39 v40 v41 v42 v43 v44 v45 v46 v47 v48 v49 v50 v51 v52 v53 v54 v55 v56 v57 v58 v59 v60 v61 v62 v63 v64 v65 v66 v67 v68 v69 v70 v71 v72 v73 v74 v75 v76 v77 v78 v79 v80 v81 v82 v83 v84 v85 v86 v87 v88 v89 v90 v91 v92 v93 v94 v95 v96 v97 v98 v99 v100 v101 v102 v103 v104 v105 v106 v107 v108 v109 v110 v111 v112 v113 v114 v115 v116 v117 v118 v119 v120 v121 v122 v123 v124 v125 v126 v127 v128 v129 v130 v131 v132 v133 v134 v135 v136 v137 v138 v139 v140 v141 v142 v143 v144 v145 v146 v147 v148 v149 v150 v151 v152 v153 v154 v155 v156 v157 v158 v159 v160 v161 v162 v163 v164 v165 v166 v167 v168 v169 v170 v171 v172 v173 v174 v175 v176 v177 v178 v179 v180 v181 v182 v183 v184 v185 v186 v187 v188 v189 v190 v191 v192 v193 v194 v195 v196 v197 v198 v199 v200 v201 v202 v203 v204 v205 v206 v207 v208 v209 v210 v211 v212 v213 v214 v215 v216 v217 v218 v219 v220 : Value} {K : Act → World → Prop} {Q : Exit → Act → World → Prop}
  (hK : ∀ (y11 y12 y79 y80 y81 y82 y83 y84 y85 y86 y87 y88 y89 y90 y91 y92 y93 y94 y95 y96 y97 y98 y99 y100 y101 : Value) (L : List (List UInt8)) (fv : Nat → Value) (W' : World), Hid (St N w0 evv A gI M fi fh fo fw ft fv L Ks sz W' ∧ Bx W' Eb (ev m) ∧ Iv o (ev m).E L0 fv0 (ev m).ne L fv) → K { tmps := List.toArray (v0 :: v1 :: v2 :: (.pointer (some ⟨A.x, 0, none⟩) : Value) :: v4 :: v5 :: v6 :: v7 :: (.int .i64 (m : Int) : Value) :: (.pointer (some ⟨Eb, 0, none⟩) : Value) :: v10 :: y11 :: y12 :: v13 :: v14 :: v15 :: v16 :: v17 :: v18 :: v19 :: v20 :: v21 :: v22 :: v23 :: v24 :: v25 :: v26 :: v27 :: v28 :: v29 :: v30 :: v31 :: v32 :: v33 :: v34 :: v35 :: v36 :: v37 :: v38 :: v39 :: v40 :: v41 :: v42 :: v43 :: v44 :: v45 :: v46 :: v47 :: v48 :: v49 :: v50 :: v51 :: v52 :: v53 :: v54 :: v55 :: v56 :: v57 :: v58 :: v59 :: v60 :: v61 :: v62 :: v63 :: v64 :: v65 :: v66 :: v67 :: v68 :: v69 :: v70 :: v71 :: v72 :: v73 :: v74 :: v75 :: v76 :: v77 :: v78 :: y79 :: y80 :: y81 :: y82 :: y83 :: y84 :: y85 :: y86 :: y87 :: y88 :: y89 :: y90 :: y91 :: y92 :: y93 :: y94 :: y95 :: y96 :: y97 :: y98 :: y99 :: y100 :: y101 :: v102 :: v103 :: v104 :: v105 :: v106 :: v107 :: v108 :: v109 :: v110 :: v111 :: v112 :: v113 :: v114 :: v115 :: v116 :: v117 :: v118 :: v119 :: v120 :: v121 :: v122 :: v123 :: v124 :: v125 :: v126 :: v127 :: v128 :: v129 :: v130 :: v131 :: v132 :: v133 :: v134 :: v135 :: v136 :: v137 :: v138 :: v139 :: v140 :: v141 :: v142 :: v143 :: v144 :: v145 :: v146 :: v147 :: v148 :: v149 :: v150 :: v151 :: v152 :: v153 :: v154 :: v155 :: v156 :: v157 :: v158 :: v159 :: v160 :: v161 :: v162 :: v163 :: v164 :: v165 :: v166 :: v167 :: v168 :: v169 :: v170 :: v171 :: v172 :: v173 :: v174 :: v175 :: v176 :: v177 :: v178 :: v179 :: v180 :: v181 :: v182 :: v183 :: v184 :: v185 :: v186 :: v187 :: v188 :: v189 :: v190 :: v191 :: v192 :: v193 :: v194 :: v195 :: v196 :: v197 :: v198 :: v199 :: v200 :: v201 :: v202 :: v203 :: v204 :: v205 :: v206 :: v207 :: v208 :: v209 :: v210 :: v211 :: v212 :: v213 :: v214 :: v215 :: v216 :: v217 :: v218 :: v219 :: v220 :: []), defers := [] } W') :
  Code.wp Tryf.prog (inn Tryf.f16) (Exit.then K Q) { tmps := List.toArray (v0 :: v1 :: v2 :: (.pointer (some ⟨A.x, 0, none⟩) : Value) :: v4 :: v5 :: v6 :: v7 :: (.int .i64 (m : Int) : Value) :: (.pointer (some ⟨Eb, 0, none⟩) : Value) :: v10 :: v11 :: v12 :: v13 :: v14 :: v15 :: v16 :: v17 :: v18 :: v19 :: v20 :: v21 :: v22 :: v23 :: v24 :: v25 :: v26 :: v27 :: v28 :: v29 :: v30 :: v31 :: v32 :: v33 :: v34 :: v35 :: v36 :: v37 :: v38 :: v39 :: v40 :: v41 :: v42 :: v43 :: v44 :: v45 :: v46 :: v47 :: v48 :: v49 :: v50 :: v51 :: v52 :: v53 :: v54 :: v55 :: v56 :: v57 :: v58 :: v59 :: v60 :: v61 :: v62 :: v63 :: v64 :: v65 :: v66 :: v67 :: v68 :: v69 :: v70 :: v71 :: v72 :: v73 :: v74 :: v75 :: v76 :: v77 :: v78 :: v79 :: v80 :: v81 :: v82 :: v83 :: v84 :: v85 :: v86 :: v87 :: v88 :: v89 :: v90 :: v91 :: v92 :: v93 :: v94 :: v95 :: v96 :: v97 :: v98 :: v99 :: v100 :: v101 :: v102 :: v103 :: v104 :: v105 :: v106 :: v107 :: v108 :: v109 :: v110 :: v111 :: v112 :: v113 :: v114 :: v115 :: v116 :: v117 :: v118 :: v119 :: v120 :: v121 :: v122 :: v123 :: v124 :: v125 :: v126 :: v127 :: v128 :: v129 :: v130 :: v131 :: v132 :: v133 :: v134 :: v135 :: v136 :: v137 :: v138 :: v139 :: v140 :: v141 :: v142 :: v143 :: v144 :: v145 :: v146 :: v147 :: v148 :: v149 :: v150 :: v151 :: v152 :: v153 :: v154 :: v155 :: v156 :: v157 :: v158 :: v159 :: v160 :: v161 :: v162 :: v163 :: v164 :: v165 :: v166 :: v167 :: v168 :: v169 :: v170 :: v171 :: v172 :: v173 :: v174 :: v175 :: v176 :: v177 :: v178 :: v179 :: v180 :: v181 :: v182 :: v183 :: v184 :: v185 :: v186 :: v187 :: v188 :: v189 :: v190 :: v191 :: v192 :: v193 :: v194 :: v195 :: v196 :: v197 :: v198 :: v199 :: v200 :: v201 :: v202 :: v203 :: v204 :: v205 :: v206 :: v207 :: v208 :: v209 :: v210 :: v211 :: v212 :: v213 :: v214 :: v215 :: v216 :: v217 :: v218 :: v219 :: v220 :: []), defers := [] } W := by
  have e : (inn Tryf.f16) = (inn Tryf.f16) := rfl
  conv at e => rhs; whnf
  rw [e]
  clear e
  have HX : Hid (RdEv w0.heap.size w0 evB N ev ∧ St N w0 evv A gI M fi fh fo fw ft fv0 L0 Ks sz W ∧ Bx W Eb (ev m)) := ⟨hE, hS, hB⟩
  have HK : Hid _ := hK
  have OK : Hid (AOk w0.heap.size A gI ∧ Eb ∉ gI :: A.list) := ⟨ok, hEb⟩
  have d1 := cell_blk hB 1
  simp at d1
  clear hE hS hB hK ok hEb
  obtain ⟨n, hn⟩ : ∃ n, (ev m).ne = n := ⟨_, rfl⟩
  obtain ⟨eb, heb⟩ : ∃ n, (ev m).eb = n := ⟨_, rfl⟩
  obtain ⟨E, hEE⟩ : ∃ n, (ev m).E = n := ⟨_, rfl⟩
  have hnn : n < 1048577 := by rw [← hn]; exact HX.out.1.ne m hm
  rw [hn, heb] at d1
  rw [hn] at ho hL hfi
  rw [hn, hEE] at HK
  have EN : Hid ((ev m).ne = n ∧ (ev m).eb = eb ∧ (ev m).E = E) := ⟨hn, heb, hEE⟩
  clear hn heb hEE
  go_wp2_with fail
  go_loopg [83] n (fun k s83 wr => ∃ (p : Nat) (L : List (List UInt8)) (fv : Nat → Value), s83 = .int .i64 (p : Int) ∧ p ≤ n ∧ n - p ≤ k ∧ Hid (St N w0 evv A gI M fi fh fo fw ft fv L Ks sz wr ∧ Bx wr Eb (ev m) ∧ Iv o E L0 fv0 p L fv))
  case atStart => exact ⟨0, L0, fv0, rfl, by omega, by omega, HX.out.2.1, HX.out.2.2, Ext.refl _, by omega, fun j _ => rfl, fun j _ => rfl, fun q hq => absurd hq (Nat.not_lt_zero _)⟩
  case round =>
    obtain ⟨p, L, fv, rfl, h1, h2, hR⟩ := hrel
    by_cases hlt : p < n
    · have hev := HX.out.1.below hR.out.1.low
      have hen : RdE wr eb n E := by have := hev.ent m hm; rw [EN.out.1, EN.out.2.1, EN.out.2.2] at this; exact this
      obtain ⟨c1, c2⟩ := hen p hlt
      have hsz : (E p).1.size ≤ 1048576 := by have := (HX.out.1.es m hm p (by rw [EN.out.1]; exact hlt)).1; rw [EN.out.2.2] at this; exact this
      clear hev hen
      obtain ⟨hs, hs0⟩ : ∃ s, (E p).1 = s := ⟨_, rfl⟩
      obtain ⟨hc, hc0⟩ : ∃ s, (E p).2 = s := ⟨_, rfl⟩
      rw [hs0] at c1 hsz
      rw [hc0] at c2
      have HC : Hid ((E p).1 = hs) := hs0
      clear hs0 hc0
      have i1 : (0 : Int) ≤ (m : Int) := by omega
      have i2 : (m : Int) < (N : Int) := by omega
      have i3 : (0 : Int) ≤ (p : Int) := by omega
      have i4 : (p : Int) < (n : Int) := by omega
      go_wp2_with fail
      obtain ⟨W1, hW1⟩ : ∃ W1, wr.alloc (Obj.cells #[Value.string hs, Value.int IntKind.u64 (hc : Int)] 62) = W1 := ⟨_, rfl⟩
      have S1 : Hid (St N w0 evv A gI M fi fh fo fw ft fv L Ks sz W1 ∧ Bx W1 Eb (ev m)) := by rw [← hW1]; exact ⟨hR.out.1.alloc _, alloc_blk hR.out.2.1 _⟩
      have q3 : W1.cell? ⟨wr.heap.size, 0, none⟩ = some (.string hs) := by rw [← hW1, cell_blk (heap_alloc_new wr _)]; rfl
      have q1 : W1.cell? ⟨A.x, 2, none⟩ = some (.slice (some ⟨A.ids, 0, none⟩) N N) := cell_blk S1.out.1.box 2
      have q2 : W1.cell? ⟨A.ids, m, none⟩ = some (.slice (some ⟨gI, o, none⟩) n n) := by rw [S1.out.1.ids.cell m hm, hfi]
      have hBz : wr.heap.size < W1.heap.size := World.block_lt_of_cell? _ _ q3
      have hneq : wr.heap.size ≠ A.n := fun e => by have := hR.out.1.num.lt; omega
      rw [hW1]
      clear hW1
      have HC32 : Hid (Calls Tryf.prog 32 #[.pointer (some ⟨A.x, 0, none⟩), .string hs] W1.drew fun e w' => e = .returned (.int .i64 (ix (addH L hs.data.toList) hs.data.toList : Nat)) ∧ w'.cell? ⟨wr.heap.size, 0, none⟩ = some (.string hs) ∧ w'.cell? ⟨A.x, 2, none⟩ = some (.slice (some ⟨A.ids, 0, none⟩) N N) ∧ w'.cell? ⟨A.ids, m, none⟩ = some (.slice (some ⟨gI, o, none⟩) n n) ∧ w'.cell? ⟨gI, o + p, none⟩ = some (fv (o + p)) ∧ w'.frozen? ⟨gI, o + p, none⟩ = false ∧ Hid (St N w0 evv A gI M fi fh fo fw ft fv (addH L hs.data.toList) Ks sz w' ∧ Bx w' Eb (ev m))) := by
        obtain ⟨W', hW'⟩ : ∃ W', W1.drew = W' := ⟨_, rfl⟩
        rw [hW']
        have hb0 : Below W1.heap.size W1 W' := by rw [← hW']; exact (Below.refl _ W1).drew
        have S' : St N w0 evv A gI M fi fh fo fw ft fv L Ks sz W' := S1.out.1.below hb0
        have B' : Bx W' Eb (ev m) := by rw [← hW']; exact S1.out.2
        refine (number_any A.x A.n L hs W' (cell_blk S'.box 1) S'.num hsz (by have := hR.out.2.2.len; omega)).mono ?_
        rintro e w' ⟨rfl, hM', hg⟩
        have S2 := S'.number OK.out.1 hg hM'
        have far : ∀ (a : Addr) (v : Value), a.block ≠ A.n → W'.cell? a = some v → w'.cell? a = some v := fun a v ha hv => by
          rw [World.cell?_of_block (w := W') (hg.block a.block (World.block_lt_of_cell? _ _ hv) (fun e => ha (Option.some.inj e)))]; exact hv
        refine ⟨rfl, far _ _ hneq (kc hb0 q3), cell_blk S2.box 2, by rw [S2.ids.cell m hm, hfi], S2.iv.cell _ (by omega), S2.iv.free _, S2, ?_⟩
        have hne : Eb ≠ A.n := fun e => OK.out.2 (by rw [e]; simp [Adr.list])
        unfold Bx at *
        rw [hg.block Eb (blk_lt B') (fun e => hne (Option.some.inj e))]
        exact B'
      have n1 : gI ≠ A.x := OK.out.1.ne.1.1
      have n2 : gI ≠ A.ids := OK.out.1.ne.1.2.2.1
      have n3 : gI ≠ wr.heap.size := fun e => by have := hR.out.1.iv.lt; omega
      go_region_held3 (fun w' => w'.cell? ⟨A.x, 2, none⟩ = some (.slice (some ⟨A.ids, 0, none⟩) N N) ∧ w'.cell? ⟨A.ids, m, none⟩ = some (.slice (some ⟨gI, o, none⟩) n n) ∧ w'.cell? ⟨wr.heap.size, 0, none⟩ = some (.string hs)) (first | go_keep | exact ⟨z2, z3, z1⟩ | exact ⟨cell_other z2 _ (Ne.symm n1), cell_other z3 _ (Ne.symm n2), cell_other z1 _ (Ne.symm n3)⟩)
        (first | (go_at_call 32; refine HC32.out.mono ?_; rintro e w' ⟨rfl, z1, z2, z3, z4, z5, z6⟩))
      go_wp2
      go_roundg (n - (p + 1))
      case measure => omega
      case rel =>
        have z := z6.out
        refine ⟨p + 1, addH L hs.data.toList, upd fv (o + p) (.int .i64 (ix (addH L hs.data.toList) hs.data.toList : Nat)), by rw [show (p : Int) + 1 = ((p + 1 : Nat) : Int) by omega], by omega, Nat.le_refl _, z.1.setIv OK.out.1 _ _, ?_, ?_⟩
        · have hne : Eb ≠ gI := fun e => OK.out.2 (by rw [e]; simp)
          exact (Below.heap_setCell w' _ _ Eb hne).trans z.2
        · have := hR.out.2.2.step
          rw [HC.out] at this
          exact this
    · obtain rfl : p = n := by omega
      go_wp2_with fail
      exact HK.out _ _ _ _ _ _ _ _ _ _ _ _ _ _ _ _ _ _ _ _ _ _ _ _ _ L fv wr hR
end Go.Proofs.Qxb6613595aFmt
