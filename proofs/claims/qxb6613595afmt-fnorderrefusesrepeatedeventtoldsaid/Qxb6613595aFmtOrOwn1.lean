import Derived.Test.Qxb6613595aFmtOrOwn0
namespace Go.Proofs.Qxb6613595aFmt
open Go.RowKit Go.Maps Go.Extern.Stop Go.Stop Go.Extern
attribute [local go_sem ↓] Go.wp_at_zero Go.wp_at_succ
set_option linter.unusedVariables false

def own12 (fF : Func) : Code := sndC (sndC (sndC (sndC (sndC (sndC (fF.body.getD .skip))))))
def own12a (fF : Func) : Code := fstC (fstC (own12 fF))
def own12b (fF : Func) : Code := sndC (fstC (own12 fF))
def own23 (fF : Func) : Code := sndC (own12 fF)

set_option maxRecDepth 20000 in
set_option maxHeartbeats 16000000 in
theorem own12_any (F : Interp) (B evB N C Eb : Nat) (ev : Nat → Ev) (D : IxD) (w W : World) (hF : F.answers w.tape) (hB : B ≤ w.heap.size) (i : Nat) (hi : i < N) (hI : Idx B evB N C ev D W) (hb : Below w.heap.size w W) (q1 : W.cell? ⟨Eb, 1, none⟩ = some (.slice (some ⟨(ev i).eb, 0, none⟩) (ev i).ne (ev i).ne))
  {v2 v3 v4 v6 v7 v8 v9 v10 v11 v12 v13 v14 v15 v16 v17 v18 v19 v20 v21 v22 v23 v24 v25 v26 v27 v28 v29 v30 v31 v32 v33 v34 v35 v36 v37 v38 v39 v40 v41 v42 v43 v44 v45 v46 v47 v48 v49 v50 v51 v52 v53 v54 v55 v56 v57 v58 v59 v60 v61 v62 v63 v64 v65 v66 v67 v68 v69 v70 v71 v72 v73 v74 v75 v76 v77 v78 v79 v80 v81 v82 v83 v84 v85 v86 v87 v88 v89 v90 v91 v92 v93 v94 v95 v96 v97 v98 v99 v100 v101 v102 v103 v104 v105 v106 v107 v108 v109 v110 v111 v112 v113 v114 v115 v116 v117 v118 v119 v120 v121 v122 v123 v124 v125 v126 v127 v128 v129 v130 v131 v132 v133 v134 v135 v136 v137 v138 v139 v140 v141 v142 v143 v144 v145 v146 v147 v148 v149 v150 v151 v152 v153 v154 v155 v156 v157 v158 : Value} {K1 K2 : Act → World → Prop} {P : Prop} (hP : ¬ P) (h1 : ∀ a w', Code.wp Tryf.prog (own12b Tryf.f17) (Exit.then K2 (bodyPost Tryf.prog Tryf.f17 fun e w' => Below w.heap.size w w' ∧ ∃ s, e = .returned (.string s) ∧ (P → NEs s))) a w' → K1 a w') (h2 : ∀ a w', Code.wp Tryf.prog (own23 Tryf.f17) (bodyPost Tryf.prog Tryf.f17 fun e w' => Below w.heap.size w w' ∧ ∃ s, e = .returned (.string s) ∧ (P → NEs s)) a w' → K2 a w') :
  Code.wp Tryf.prog (own12a Tryf.f17) (Exit.then K1 (Exit.then K2 (bodyPost Tryf.prog Tryf.f17 fun e w' => Below w.heap.size w w' ∧ ∃ s, e = .returned (.string s) ∧ (P → NEs s)))) { tmps := List.toArray ((.pointer (some ⟨D.A.x, 0, none⟩) : Value) :: (.int .i64 (i : Int) : Value) :: v2 :: v3 :: v4 :: (.pointer (some ⟨Eb, 0, none⟩) : Value) :: v6 :: v7 :: v8 :: v9 :: v10 :: v11 :: v12 :: v13 :: v14 :: v15 :: v16 :: v17 :: v18 :: v19 :: v20 :: v21 :: v22 :: v23 :: v24 :: v25 :: v26 :: v27 :: v28 :: v29 :: v30 :: v31 :: v32 :: v33 :: v34 :: v35 :: v36 :: v37 :: v38 :: v39 :: v40 :: v41 :: v42 :: v43 :: v44 :: v45 :: v46 :: v47 :: v48 :: v49 :: v50 :: v51 :: v52 :: v53 :: v54 :: v55 :: v56 :: v57 :: v58 :: v59 :: v60 :: v61 :: v62 :: v63 :: v64 :: v65 :: v66 :: v67 :: v68 :: v69 :: v70 :: v71 :: v72 :: v73 :: v74 :: v75 :: v76 :: v77 :: v78 :: v79 :: v80 :: v81 :: v82 :: v83 :: v84 :: v85 :: v86 :: v87 :: v88 :: v89 :: v90 :: v91 :: v92 :: v93 :: v94 :: v95 :: v96 :: v97 :: v98 :: v99 :: v100 :: v101 :: v102 :: v103 :: v104 :: v105 :: v106 :: v107 :: v108 :: v109 :: v110 :: v111 :: v112 :: v113 :: v114 :: v115 :: v116 :: v117 :: v118 :: v119 :: v120 :: v121 :: v122 :: v123 :: v124 :: v125 :: v126 :: v127 :: v128 :: v129 :: v130 :: v131 :: v132 :: v133 :: v134 :: v135 :: v136 :: v137 :: v138 :: v139 :: v140 :: v141 :: v142 :: v143 :: v144 :: v145 :: v146 :: v147 :: v148 :: v149 :: v150 :: v151 :: v152 :: v153 :: v154 :: v155 :: v156 :: v157 :: v158 :: []), defers := [] } W := by
  have e : (own12a Tryf.f17) = (own12a Tryf.f17) := rfl
  conv at e => rhs; whnf
  rw [e]
  clear e
  have e : (own12b Tryf.f17) = (own12b Tryf.f17) := rfl
  conv at e => rhs; whnf
  rw [e] at h1
  clear e
  have e : (own23 Tryf.f17) = (own23 Tryf.f17) := rfl
  conv at e => rhs; whnf
  rw [e] at h2
  clear e
  have hBW : B ≤ W.heap.size := Nat.le_trans hB hb.size
  have HB : Hid (∀ W' : World, Below W.heap.size W W' → Idx B evB N C ev D W' ∧ F.answers W'.tape ∧ Below w.heap.size w W') := fun W' h => ⟨hI.below (h.mono hBW), by rw [h.tape, hb.tape]; exact hF, hb.trans (h.mono hb.size)⟩
  have HP : Hid (¬ P) := hP
  have hN : N ≤ 4098 := hI.nN
  have hH : D.H ≤ 1048576 * 2 := hI.nH
  have hne := hI.evs.ne i hi
  have hes : Hid (∀ p, p < (ev i).ne → ((ev i).E p).1.size ≤ 1048576) := fun p hp => (hI.evs.es i hi p hp).1
  clear hI hb hF hP hB
  obtain ⟨n, hn0⟩ : ∃ x, (ev i).ne = x := ⟨_, rfl⟩
  obtain ⟨eb, heb0⟩ : ∃ x, (ev i).eb = x := ⟨_, rfl⟩
  rw [hn0, heb0] at q1
  rw [hn0] at hne hes
  have EQ : Hid ((ev i).ne = n ∧ (ev i).eb = eb) := ⟨hn0, heb0⟩
  clear hn0 heb0
  have i1 : (0 : Int) ≤ (i : Int) := by omega
  have i2 : (i : Int) < (N : Int) := by omega
  go_wp2_with fail
  go_loopg [97] n (fun k s97 wr => ∃ p : Nat, s97 = .int .i64 (p : Int) ∧ p ≤ n ∧ n - p ≤ k ∧ Hid (Below W.heap.size W wr))
  case atStart => exact ⟨0, rfl, by omega, by omega, Below.refl _ _⟩
  case round =>
    obtain ⟨p, rfl, g1, g2, hR⟩ := hrel
    by_cases hlt : p < n
    · obtain ⟨I1, A1, B1⟩ := HB.out _ hR.out
      have hen := I1.evs.ent i hi
      rw [EQ.out.1, EQ.out.2] at hen
      obtain ⟨c1, c2⟩ := hen p hlt
      clear hen I1 A1 B1
      obtain ⟨hs, hs0⟩ : ∃ x, ((ev i).E p).1 = x := ⟨_, rfl⟩
      obtain ⟨c, hc0⟩ : ∃ x, ((ev i).E p).2 = x := ⟨_, rfl⟩
      have hsz := hes.out p hlt
      rw [hs0] at c1 hsz
      rw [hc0] at c2
      clear hs0 hc0
      have i3 : (p : Int) < (n : Int) := by omega
      go_upto_region 15 with fail
      obtain ⟨W2, hW2⟩ : ∃ W2, wr.alloc (Obj.cells #[Value.string hs, Value.int IntKind.u64 (c : Int)] 62) = W2 := ⟨_, rfl⟩
      have B2 : Hid (Below W.heap.size W W2) := by rw [← hW2]; exact hR.out.alloc hR.out.size _
      have e0 : W2.cell? ⟨wr.heap.size, 0, none⟩ = some (.string hs) := by rw [← hW2, cell_blk (heap_alloc_new wr _)]; rfl
      have e1 : W2.cell? ⟨wr.heap.size, 1, none⟩ = some (.int .u64 (c : Int)) := by rw [← hW2, cell_blk (heap_alloc_new wr _)]; rfl
      rw [hW2]
      clear hW2 c1 c2
      obtain ⟨I2, A2, B3⟩ := HB.out _ B2.out
      have d2 : W2.cell? ⟨D.A.x, 2, none⟩ = some (.slice (some ⟨D.A.ids, 0, none⟩) N N) := cell_blk I2.box 2
      have d3 : W2.cell? ⟨D.A.x, 3, none⟩ = some (.slice (some ⟨D.A.hst, 0, none⟩) N N) := cell_blk I2.box 3
      have d8 : W2.cell? ⟨D.A.x, 8, none⟩ = some (.slice (some ⟨D.gC, 0, none⟩) D.H D.H) := cell_blk I2.box 8
      have f2 := I2.ids i hi
      rw [EQ.out.1] at f2
      obtain ⟨f3, h3⟩ := I2.iv i hi p (by rw [EQ.out.1]; exact hlt)
      obtain ⟨f4, h4⟩ := I2.hst i hi
      obtain ⟨f5, h5⟩ := I2.cnt _ h3
      have B4 : Hid (Below w.heap.size w W2) := B3
      have hF1 := answers_open A2
      have A3 : Hid (F.answers W2.tape) := A2
      clear I2 A2 B3
      generalize D.id i p = h at f3 h3 f5 h5
      generalize D.hs i = hh at f4 h4
      generalize D.cnt h = cn at f5 h5
      generalize D.off i = off at f2 f3
      have i4 : (h : Int) < (D.H : Int) := by omega
      have H35 : Hid (Calls Tryf.prog 35 #[.string hs] W2.drew fun e w' => (∃ t, e = .returned (.string t) ∧ t.size ≤ 67) ∧ w' = W2.drew) := shown_any hs W2.drew (by omega)
      by_cases hhh : h = hh
      · subst hhh
        go_wp2_with fail
        go_roundg (n - (p + 1))
        case measure => omega
        case rel => exact ⟨p + 1, by rw [show (p : Int) + 1 = ((p + 1 : Nat) : Int) by omega], by omega, Nat.le_refl _, B2⟩
      · have hne2 : ¬ (h : Int) = (hh : Int) := by omega
        by_cases hcn : cn = 0
        · subst hcn
          go_wp2_with fail
          go_region_held3 (fun w' => w'.cell? ⟨wr.heap.size, 0, none⟩ = some (.string hs) ∧ w'.cell? ⟨wr.heap.size, 1, none⟩ = some (.int .u64 (c : Int))) (first | go_keep | exact ⟨e0, e1⟩ | exact ⟨ca e0 _, ca e1 _⟩)
            (first | (go_at_call 35; refine H35.out.mono ?_; rintro e w' ⟨⟨t, rfl, ht⟩, rfl⟩))
          go_wp2
          go_ret
          exact ⟨B4.out.drew.drew.alloc B4.out.size _, _, rfl, fun h => absurd h HP.out⟩
        · have hcn2 : ¬ (cn : Int) = 0 := by omega
          by_cases hgt : cn < c
          · have hgt2 : (cn : Int) < (c : Int) := by omega
            go_wp2_with fail
            go_region_held3 (fun w' => w'.cell? ⟨wr.heap.size, 0, none⟩ = some (.string hs) ∧ w'.cell? ⟨wr.heap.size, 1, none⟩ = some (.int .u64 (c : Int))) (first | go_keep | exact ⟨e0, e1⟩ | exact ⟨ca e0 _, ca e1 _⟩)
              (first | (go_at_call 35; refine H35.out.mono ?_; rintro e w' ⟨⟨t, rfl, ht⟩, rfl⟩))
            go_wp2
            go_ret
            exact ⟨B4.out.drew.drew.alloc B4.out.size _, _, rfl, fun h => absurd h HP.out⟩
          · have hgt2 : ¬ (cn : Int) < (c : Int) := by omega
            go_wp2_with fail
            go_roundg (n - (p + 1))
            case measure => omega
            case rel => exact ⟨p + 1, by rw [show (p : Int) + 1 = ((p + 1 : Nat) : Int) by omega], by omega, Nat.le_refl _, B2⟩
    · obtain rfl : p = n := by omega
      go_wp2_with fail
      go_ret
      exact ⟨(HB.out _ hR.out).2.2, _, rfl, fun h => absurd h HP.out⟩
end Go.Proofs.Qxb6613595aFmt
