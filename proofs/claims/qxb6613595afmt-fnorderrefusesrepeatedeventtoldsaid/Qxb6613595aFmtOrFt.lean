import Derived.Test.Qxb6613595aFmtOrF7
import Derived.Deep.RegionWith
namespace Go.Proofs.Qxb6613595aFmt
open Go.RowKit Go.Maps Go.Extern.Stop Go.Stop Go.Extern
attribute [local go_sem] Oper.semAt_some
attribute [local go_sem ↓] Go.wp_at_zero Go.wp_at_succ
set_option linter.unusedVariables false

theorem Cc.blk {B0 H cB gK ga gv r : Nat} {nm nm' : Value} {w w' : World} (h : Cc B0 H cB gK ga gv r nm w) (hc : w'.heap[cB]? = some (.cells #[.int .i64 (r : Nat), .slice (some ⟨gK, 0, none⟩) H H, .slice (some ⟨ga, 0, none⟩) H H, .slice (some ⟨gv, 0, none⟩) H H, nm'] 104 (0, 0))) (hb : ∀ b, b < w.heap.size → b ≠ cB → (∀ c, w.heap[b]? ≠ some (.cells c 52 (0, 0))) → w'.heap[b]? = w.heap[b]?) : Cc B0 H cB gK ga gv r nm' w' := by
  obtain ⟨fk, hfk⟩ := h.k
  obtain ⟨fa, hfa⟩ := h.a
  obtain ⟨fv, hfv⟩ := h.v
  have n := h.ne
  exact ⟨hc, h.k.same (hb gK h.k.lt (Ne.symm n.2.2.2.1) (fun c e => by rw [hfk] at e; exact tagne e (by decide))), h.a.same (hb ga h.a.lt (Ne.symm n.2.2.2.2.1) (fun c e => by rw [hfa] at e; exact tagne e (by decide))), h.v.same (hb gv h.v.lt (Ne.symm n.2.2.2.2.2) (fun c e => by rw [hfv] at e; exact tagne e (by decide))), h.ge, h.ne⟩

theorem Idx.up {B B0 evB N C : Nat} {ev : Nat → Ev} {D : IxD} {w : World} (h : Idx B evB N C ev D w) (hb : B ≤ B0) : Idx B0 evB N C ev D w :=
  { h with evs := { h.evs with blk := Nat.lt_of_lt_of_le h.evs.blk hb, eb := fun i hi => (h.evs.eb i hi).imp id (fun k => Nat.lt_of_lt_of_le k hb) }, lt := fun b hb' => Nat.lt_of_lt_of_le (h.lt b hb') hb }

set_option maxRecDepth 20000 in
set_option maxHeartbeats 32000000 in
theorem flt6_any (F : Interp) (B B0 evB N C cB gK ga gv r i gF b4 b5 Dd : Nat) (fv : Nat → ByteArray) (nm : Value) (ev : Nat → Ev) (D : IxD) (W : World) (hF : F.answers W.tape) (hi : i < N) (hI : Idx B evB N C ev D W) (hBB : B ≤ B0) (hB : B0 ≤ W.heap.size)
    (hC : CcS B0 D.H N cB gK ga gv r nm W) (hfv : ∀ k, k < N → W.cell? ⟨gF, k, none⟩ = some (.string (fv k))) (hgF : gF < B0)
    (h4 : W.heap[b4]? = some (.cells #[.pointer (some ⟨cB, 0, none⟩)] 76 (0, 0))) (h5 : W.heap[b5]? = some (.cells #[.pointer (some ⟨D.A.x, 0, none⟩)] 44 (0, 0))) (hb4 : B0 ≤ b4) (hb5 : B0 ≤ b5) (hd : W.heap[Dd]? = some (.deferred (some []))) (hDd : B0 ≤ Dd)
    {v6 v7 v8 v9 v10 v11 v12 v13 v14 v15 v16 v17 v18 v19 v20 v21 v22 v23 v24 v25 v26 v27 v28 v29 v30 v31 v32 v33 v34 v35 v36 v37 v38 v39 v40 v41 v42 v43 v44 v45 v46 v47 v48 v49 v50 v51 v52 v53 v54 v55 v56 v57 v58 v59 v60 v61 v62 v63 v64 v65 v66 v67 v68 v69 v70 v71 v72 v73 v74 v75 v76 v77 v78 v79 v80 v81 v82 v83 v84 v85 v86 v87 v88 v89 v90 v91 v92 v93 v94 v95 v96 v97 v98 : Value} {Q : Exit → Act → World → Prop}
    (hQ : ∀ (s : ByteArray) (a : Act) (W' : World), a.tmps.getD 8 undef = .string s → a.defers = [{ target := .collected Dd, args := #[] }] → Hid (Below B0 W W' ∧ W'.heap[Dd]? = some (.deferred (some [])) ∧ ∃ nm, CcS B0 D.H N cB gK ga gv r nm W') → Q .ret a W') :
    Code.wp Tryf.prog (flt6 Tryf.f22) Q { tmps := List.toArray ((.pointer (some ⟨cB, 0, none⟩) : Value) :: (.pointer (some ⟨D.A.x, 0, none⟩) : Value) :: (.int .i64 (i : Int) : Value) :: (.slice (some ⟨gF, 0, none⟩) N N : Value) :: (.pointer (some ⟨b4, 0, none⟩) : Value) :: (.pointer (some ⟨b5, 0, none⟩) : Value) :: v6 :: v7 :: v8 :: v9 :: v10 :: v11 :: v12 :: v13 :: v14 :: v15 :: v16 :: v17 :: v18 :: v19 :: v20 :: v21 :: v22 :: v23 :: v24 :: v25 :: v26 :: v27 :: v28 :: v29 :: v30 :: v31 :: v32 :: v33 :: v34 :: v35 :: v36 :: v37 :: v38 :: v39 :: v40 :: v41 :: v42 :: v43 :: v44 :: v45 :: v46 :: v47 :: v48 :: v49 :: v50 :: v51 :: v52 :: v53 :: v54 :: v55 :: v56 :: v57 :: v58 :: v59 :: v60 :: v61 :: v62 :: v63 :: v64 :: v65 :: v66 :: v67 :: v68 :: v69 :: v70 :: v71 :: v72 :: v73 :: v74 :: v75 :: v76 :: v77 :: v78 :: v79 :: v80 :: v81 :: v82 :: v83 :: v84 :: v85 :: v86 :: v87 :: v88 :: v89 :: v90 :: v91 :: v92 :: v93 :: v94 :: v95 :: v96 :: v97 :: v98 :: []), defers := [{ target := .collected Dd, args := #[] }] } W := by
  have e : (flt6 Tryf.f22) = (flt6 Tryf.f22) := rfl
  conv at e => rhs; whnf
  rw [e]
  clear e
  obtain ⟨hC, xs, hxl, hx⟩ := hC
  obtain ⟨q, n, cp, rfl, hx0⟩ : ∃ q n cp, nm = .slice q n cp ∧ W.ownsRow B0 52 2 (.slice q 0 cp) 0 [] := by
    rcases hx.2 with ⟨rfl, h⟩ | ⟨g, cap, cur, rfl, hbg, hg, hnc, hcm, hcs, hct⟩
    · exact ⟨none, 0, 0, rfl, rfl, .inl ⟨rfl, rfl⟩⟩
    · exact ⟨_, _, _, rfl, rfl, .inr ⟨g, cap, cur, rfl, hbg, hg, Nat.zero_le _, hcm, hcs, by simp⟩⟩
  have t4 : W.cell? ⟨b4, 0, none⟩ = some (.pointer (some ⟨cB, 0, none⟩)) := cell_blk h4 0
  have t5 : W.cell? ⟨b5, 0, none⟩ = some (.pointer (some ⟨D.A.x, 0, none⟩)) := cell_blk h5 0
  have tc : W.cell? ⟨cB, 4, none⟩ = some (.slice q n cp) := cell_blk hC.box 4
  have hob : ∀ b, Value.ownBlock (.slice q 0 cp) = some b → B0 ≤ b ∧ ∃ c, W.heap[b]? = some (.cells c 52 (0, 0)) := fun b hb => own_tag hx0 hb
  have hsl : ∀ w : World, (Instr.slice 102 (.slice q n cp) none (some (.int .i64 0)) none).run Tryf.prog w = .ok (.slice q 0 cp) w := fun w => by
    rcases hx.2 with ⟨h, _⟩ | ⟨g, cap, cur, h, hbg, hg, hnc, hcm, hcs, hct⟩
    · cases h; simp [go_sem]
    · cases h
      simp [go_sem]
  have hfz : W.frozen? ⟨cB, 4, none⟩ = false := free_blk hC.box 4
  have no : ∀ {b : Nat} {o : Obj}, W.heap[b]? = some o → (∀ c, o ≠ .cells c 52 (0, 0)) → some b ≠ Value.ownBlock (.slice q 0 cp) := fun {b o} h1 h2 e => by
    obtain ⟨_, c, h3⟩ := hob b e.symm
    rw [h1] at h3
    exact h2 c (Option.some.inj h3)
  have low : ∀ {b : Nat}, b < B0 → some b ≠ Value.ownBlock (.slice q 0 cp) := fun {b} h1 e => by have := (hob b e.symm).1; omega
  have H11 : Hid (Calls Tryf.prog 11 #[.pointer (some ⟨D.A.x, 0, none⟩), .int .i64 (i : Int)] W.drew fun e w' => e = .returned (.func (.func 24) #[] #[.pointer (some ⟨W.heap.size, 0, none⟩), .pointer (some ⟨W.heap.size + 1, 0, none⟩)]) ∧ w'.cell? ⟨b4, 0, none⟩ = some (.pointer (some ⟨cB, 0, none⟩)) ∧ w'.cell? ⟨b5, 0, none⟩ = some (.pointer (some ⟨D.A.x, 0, none⟩)) ∧ w'.cell? ⟨cB, 4, none⟩ = some (.slice q n cp) ∧ Hid (w' = (W.drew.alloc (.cells #[.pointer (some ⟨D.A.x, 0, none⟩)] 44)).alloc (.cells #[.int .i64 (i : Nat)] 3))) := by
    refine (named_any D.A.x i W.drew).mono ?_
    rintro e w' ⟨rfl, rfl⟩
    exact ⟨rfl, ca (ca t4 _) _, ca (ca t5 _) _, ca (ca tc _) _, rfl⟩
  have H39 : Hid (∀ w1 : World, Hid (w1 = (W.drew.alloc (.cells #[.pointer (some ⟨D.A.x, 0, none⟩)] 44)).alloc (.cells #[.int .i64 (i : Nat)] 3)) → Calls Tryf.prog 39 #[.slice q 0 cp, .func (.func 24) #[] #[.pointer (some ⟨W.heap.size, 0, none⟩), .pointer (some ⟨W.heap.size + 1, 0, none⟩)]] w1 fun e w' => ∃ q' n' c', e = .returned (.slice q' n' c') ∧ w'.cell? ⟨b4, 0, none⟩ = some (.pointer (some ⟨cB, 0, none⟩)) ∧ w'.cell? ⟨b5, 0, none⟩ = some (.pointer (some ⟨D.A.x, 0, none⟩)) ∧ w'.cell? ⟨cB, 4, none⟩ = some (.slice q n cp) ∧ w'.frozen? ⟨cB, 4, none⟩ = false ∧ Hid (FrA (Value.ownBlock (.slice q 0 cp)) W w' ∧ ∃ xs : List (NE D.H N), xs.length ≤ 1048577 ∧ xs.length = n' ∧ w'.ownsRow B0 52 2 (.slice q' n' c') xs.length (flatN xs))) := by
    rintro w1 hw1
    have e1 := hw1.out
    have hb1 : Below W.heap.size W w1 := by rw [e1]; exact ((((Below.refl _ W).drew).alloc (Nat.le_refl _) _).alloc (by simp) _)
    have g1 : w1.heap[W.heap.size]? = some (.cells #[.pointer (some ⟨D.A.x, 0, none⟩)] 44 (0, 0)) := by rw [e1]; exact alloc_blk (heap_alloc_new W.drew _) _
    have g2 : w1.heap[W.heap.size + 1]? = some (.cells #[.int .i64 (i : Int)] 3 (0, 0)) := by
      rw [e1, show W.heap.size + 1 = (W.drew.alloc (.cells #[.pointer (some ⟨D.A.x, 0, none⟩)] 44)).heap.size by simp]
      exact heap_alloc_new _ _
    refine (appendSeq_any B0 evB N C W.heap.size (W.heap.size + 1) i cp q ev D hi w1 ((hI.below (hb1.mono (Nat.le_trans hBB hB))).up hBB) (Nat.le_trans hB hb1.size) g1 g2 (own_keep hx0 fun b c _ hc _ => (hb1.block b (blk_lt hc)).trans hc)).mono ?_
    rintro e w' ⟨v, rfl, hh⟩
    obtain ⟨ys, hyl, hys, hfr⟩ := hh.out
    obtain ⟨q', c', rfl⟩ := own_shape hys
    have fr : FrA (Value.ownBlock (.slice q 0 cp)) W w' := ⟨hfr.os.trans hb1.os, hfr.tape.trans hb1.tape, hfr.output.trans hb1.output, Nat.le_trans hb1.size hfr.size, fun b hb hne => (hfr.blk b (Nat.lt_of_lt_of_le hb hb1.size) hne).trans (hb1.block b hb)⟩
    have kC := (fr.blk cB (blk_lt hC.box) (no hC.box (fun c e => by cases e))).trans hC.box
    exact ⟨q', ys.length, c', rfl, cell_blk ((fr.blk b4 (blk_lt h4) (no h4 (fun c e => by cases e))).trans h4) 0, cell_blk ((fr.blk b5 (blk_lt h5) (no h5 (fun c e => by cases e))).trans h5) 0, cell_blk kC 4, free_blk kC 4, fr, ys, hyl, rfl, hys⟩
  have HE : Hid (∀ (w2 : World) (q' : Option Addr) (n' c' : Nat), Hid (FrA (Value.ownBlock (.slice q 0 cp)) W w2 ∧ ∃ xs : List (NE D.H N), xs.length ≤ 1048577 ∧ xs.length = n' ∧ w2.ownsRow B0 52 2 (.slice q' n' c') xs.length (flatN xs)) → ∀ {v6 v7 v8 v9 v10 v11 v12 v13 v14 v15 v16 v17 v18 v19 v20 v21 v22 v23 v24 v25 v26 v27 v28 v29 v30 v31 v32 v33 v34 v35 v36 v37 v38 v39 v40 v41 v42 v43 v44 v45 v46 v47 v48 v49 v50 v51 v52 v53 v54 v55 v56 v57 v58 v59 v60 v61 v62 v63 v64 v65 v66 v67 v68 v69 v70 v71 v72 v73 v74 v75 v76 v77 v78 v79 v80 v81 v82 v83 v84 v85 v86 v87 v88 v89 v90 v91 v92 v93 v94 v95 v96 v97 v98 : Value}, Code.wp Tryf.prog (flt7 Tryf.f22) Q { tmps := List.toArray ((.pointer (some ⟨cB, 0, none⟩) : Value) :: (.pointer (some ⟨D.A.x, 0, none⟩) : Value) :: (.int .i64 (i : Int) : Value) :: (.slice (some ⟨gF, 0, none⟩) N N : Value) :: (.pointer (some ⟨b4, 0, none⟩) : Value) :: (.pointer (some ⟨b5, 0, none⟩) : Value) :: v6 :: v7 :: v8 :: v9 :: v10 :: v11 :: v12 :: v13 :: v14 :: v15 :: v16 :: v17 :: v18 :: v19 :: v20 :: v21 :: v22 :: v23 :: v24 :: v25 :: v26 :: v27 :: v28 :: v29 :: v30 :: v31 :: v32 :: v33 :: v34 :: v35 :: v36 :: v37 :: v38 :: v39 :: v40 :: v41 :: v42 :: v43 :: v44 :: v45 :: v46 :: v47 :: v48 :: v49 :: v50 :: v51 :: v52 :: v53 :: v54 :: v55 :: v56 :: v57 :: v58 :: v59 :: v60 :: v61 :: v62 :: v63 :: v64 :: v65 :: v66 :: v67 :: v68 :: v69 :: v70 :: v71 :: v72 :: v73 :: v74 :: v75 :: v76 :: v77 :: v78 :: v79 :: v80 :: v81 :: v82 :: v83 :: v84 :: v85 :: v86 :: v87 :: v88 :: v89 :: v90 :: v91 :: v92 :: v93 :: v94 :: v95 :: v96 :: v97 :: v98 :: []), defers := [{ target := .collected Dd, args := #[] }] } (w2.setCell ⟨cB, 4, none⟩ (.slice q' n' c'))) := by
    intro w2 q' n' c' hh v6 v7 v8 v9 v10 v11 v12 v13 v14 v15 v16 v17 v18 v19 v20 v21 v22 v23 v24 v25 v26 v27 v28 v29 v30 v31 v32 v33 v34 v35 v36 v37 v38 v39 v40 v41 v42 v43 v44 v45 v46 v47 v48 v49 v50 v51 v52 v53 v54 v55 v56 v57 v58 v59 v60 v61 v62 v63 v64 v65 v66 v67 v68 v69 v70 v71 v72 v73 v74 v75 v76 v77 v78 v79 v80 v81 v82 v83 v84 v85 v86 v87 v88 v89 v90 v91 v92 v93 v94 v95 v96 v97 v98
    obtain ⟨fr, ys, hyl, hyn, hys⟩ := hh.out
    obtain ⟨W7, hW7⟩ : ∃ W7, w2.setCell ⟨cB, 4, none⟩ (.slice q' n' c') = W7 := ⟨_, rfl⟩
    rw [hW7]
    have so : ∀ b, b ≠ cB → W7.heap[b]? = w2.heap[b]? := fun b hb => by rw [← hW7]; exact Below.heap_setCell w2 _ _ b hb
    have kC := (fr.blk cB (blk_lt hC.box) (no hC.box (fun c e => by cases e))).trans hC.box
    have kC7 : W7.heap[cB]? = some (.cells #[.int .i64 (r : Nat), .slice (some ⟨gK, 0, none⟩) D.H D.H, .slice (some ⟨ga, 0, none⟩) D.H D.H, .slice (some ⟨gv, 0, none⟩) D.H D.H, .slice q' n' c'] 104 (0, 0)) := by
      rw [← hW7, set_blk _ _ _ _ _ _ kC]; rfl
    have bl : Below B0 W W7 := by
      refine ⟨?_, ?_, ?_, ?_, fun k hk => (so k (by have := hC.ge.1; omega)).trans (fr.blk k (by omega) (low hk))⟩
      · rw [← hW7]; exact fr.os
      · rw [← hW7]; exact fr.tape
      · rw [← hW7]; exact fr.output
      · have := fr.size; rw [← hW7]; simpa [World.setCell] using this
    have nn : ∀ {b : Nat} {o : Obj}, W.heap[b]? = some o → (∀ c, o ≠ .cells c 52 (0, 0)) → b ≠ cB → W7.heap[b]? = some o := fun {b o} h1 h2 h3 => (so b h3).trans ((fr.blk b (blk_lt h1) (no h1 h2)).trans h1)
    refine flt7_any F B B0 evB N C cB gK ga gv r i gF b4 b5 Dd fv q' n' c' ev D W7 (by rw [bl.tape]; exact hF) hi (hI.below (bl.mono hBB)) hBB (Nat.le_trans hB bl.size) (hC.blk kC7 fun b hb h1 h2 => (so b h1).trans (fr.blk b hb (fun e => by obtain ⟨_, c, h3⟩ := hob b e.symm; exact h2 c h3))) ys hyl hyn (own_keep hys fun b c hb hc _ => (so b (fun e => by rw [e, kC] at hc; exact tagne hc (by decide))).trans hc) (fun k hk => by rw [bl.cell (p := ⟨gF, k, none⟩) hgF]; exact hfv k hk) hgF
      (nn h4 (fun c e => by cases e) (fun e => by rw [e, hC.box] at h4; exact tagne h4 (by decide))) (nn h5 (fun c e => by cases e) (fun e => by rw [e, hC.box] at h5; exact tagne h5 (by decide))) hb4 hb5 (nn hd (fun c e => by cases e) (fun e => by rw [e, hC.box] at hd; cases hd)) hDd ?_
    intro s a W' h1 h2 h3
    exact hQ s a W' h1 h2 ⟨bl.trans h3.out.1, h3.out.2⟩
  have hcl : cB < W.heap.size := blk_lt hC.box
  have e : (flt7 Tryf.f22) = (flt7 Tryf.f22) := rfl
  conv at e => rhs; whnf
  rw [e] at HE
  clear e
  clear hF hI hC hfv h4 h5 hd hQ hx hx0 hob no low
  go_wp2_with fail
  have s0 := hsl W.drew
  rename_i K hK
  have HKK : Hid _ := hK
  clear hK
  refine wp_region_noPanic ?_
  go_region_with (first | (go_at_call 11; refine H11.out.mono ?_; rintro e w1 ⟨rfl, m4, m5, mc, hw1⟩; have s1 := hsl w1) | (go_at_call 39; refine (H39.out _ (by assumption)).mono ?_; rintro e w2 ⟨q', n', c', rfl, l4, l5, lc, lf, hw2⟩))
  all_goals exact NoPanic.normal (HKK.out _ _ (HE.out w2 q' n' c' hw2))

set_option maxRecDepth 20000 in
set_option maxHeartbeats 32000000 in
theorem fault_any (F : Interp) (B B0 evB N C cB gK ga gv r i gF : Nat) (fv : Nat → ByteArray) (nm : Value) (ev : Nat → Ev) (D : IxD) (w : World) (hF : F.answers w.tape) (hi : i < N) (hI : Idx B evB N C ev D w) (hBB : B ≤ B0) (hB : B0 ≤ w.heap.size)
    (hC : CcS B0 D.H N cB gK ga gv r nm w) (hr : r < 1048576) (hfv : ∀ k, k < N → w.cell? ⟨gF, k, none⟩ = some (.string (fv k))) (hgF : gF < B0) :
    Calls Tryf.prog 22 #[.pointer (some ⟨cB, 0, none⟩), .pointer (some ⟨D.A.x, 0, none⟩), .int .i64 (i : Int), .slice (some ⟨gF, 0, none⟩) N N] w fun e w' => ∃ s, e = .returned (.string s) ∧ Hid (Below B0 w w' ∧ ∃ nm', CcS B0 D.H N cB gK ga gv (r + 1) nm' w') := by
  have c0 : w.cell? ⟨cB, 0, none⟩ = some (.int .i64 (r : Nat)) := cell_blk hC.1.box 0
  have c0f : w.frozen? ⟨cB, 0, none⟩ = false := free_blk hC.1.box 0
  have hcl : cB < w.heap.size := blk_lt hC.1.box
  have HC : Hid (F.answers w.tape ∧ Idx B evB N C ev D w ∧ CcS B0 D.H N cB gK ga gv r nm w ∧ ∀ k, k < N → w.cell? ⟨gF, k, none⟩ = some (.string (fv k))) := ⟨hF, hI, hC, hfv⟩
  clear hF hI hC hfv
  refine (callsIn_wide (n := 10)).1 ?_
  refine callsIn_of_wp_marks Tryf.func22 rfl trivial ?_ rfl
  refine wpIn_wide.2 ?_
  simp only [Tryf.ntmps22, List.size_toArray, List.length_cons, List.length_nil, Nat.reduceAdd, Nat.reduceSub, Array.replicate_succ, Array.replicate_zero, List.push_toArray, List.append_toArray, List.nil_append, List.cons_append]
  have HK := fun W => known_any D.A.x i W
  go_wp2_with (go_at_call 25; refine (HK _).mono ?_; rintro e w' ⟨rfl, rfl⟩)
  rename_i K hK
  obtain ⟨w1, hw1⟩ : ∃ w1, w.setCell ⟨cB, 0, none⟩ (Value.int IntKind.i64 ((r : Int) + 1)) = w1 := ⟨_, rfl⟩
  rw [hw1]
  obtain ⟨hF, hI, ⟨hC, xs, hxl, hx⟩, hfv⟩ := HC.out
  have z1 : w1.heap.size = w.heap.size := by rw [← hw1]; simp [World.setCell]
  have so : ∀ b, b ≠ cB → w1.heap[b]? = w.heap[b]? := fun b hb => by rw [← hw1]; exact Below.heap_setCell w _ _ b hb
  have kc1 : w1.heap[cB]? = some (.cells #[.int .i64 ((r + 1 : Nat) : Int), .slice (some ⟨gK, 0, none⟩) D.H D.H, .slice (some ⟨ga, 0, none⟩) D.H D.H, .slice (some ⟨gv, 0, none⟩) D.H D.H, nm] 104 (0, 0)) := by
    rw [← hw1, set_blk _ _ _ _ _ _ hC.box]; rfl
  have b1 : Below B0 w w1 := ⟨by rw [← hw1]; rfl, by rw [← hw1]; rfl, by rw [← hw1]; rfl, by omega, fun k hk => so k (by have := hC.ge.1; omega)⟩
  have hCC : Cc B0 D.H cB gK ga gv (r + 1) nm w1 := ⟨kc1, hC.k.same (so _ (Ne.symm hC.ne.2.2.2.1)), hC.a.same (so _ (Ne.symm hC.ne.2.2.2.2.1)), hC.v.same (so _ (Ne.symm hC.ne.2.2.2.2.2)), hC.ge, hC.ne⟩
  have hx1 : w1.ownsRow B0 52 2 nm xs.length (flatN xs) := own_keep hx fun b c _ hc _ => (so b (fun e => by rw [e, hC.box] at hc; exact tagne hc (by decide))).trans hc
  clear hx hC hw1 HK c0 c0f so
  obtain ⟨w2, hw2⟩ : ∃ w2, (((w1.alloc (Obj.cells #[Value.pointer (some ⟨cB, 0, none⟩)] 76)).alloc (Obj.cells #[Value.pointer (some ⟨D.A.x, 0, none⟩)] 44)).alloc (Obj.cells #[Value.pointer (some ⟨D.A.x, 0, none⟩)] 44)).alloc (Obj.cells #[Value.int IntKind.i64 (i : Int)] 3) = w2 := ⟨_, rfl⟩
  have z2 : w2.heap.size = w1.heap.size + 4 := by rw [← hw2]; simp
  have a4' := a4 w1 (Obj.cells #[Value.pointer (some ⟨cB, 0, none⟩)] 76) (Obj.cells #[Value.pointer (some ⟨D.A.x, 0, none⟩)] 44) (Obj.cells #[Value.pointer (some ⟨D.A.x, 0, none⟩)] 44) (Obj.cells #[Value.int IntKind.i64 (i : Int)] 3)
  have b2 : Below w1.heap.size w1 w2 := by rw [← hw2]; exact ((((Below.refl _ w1).alloc (Nat.le_refl _) _).alloc (by simp) _).alloc (by simp; omega) _).alloc (by simp; omega) _
  obtain ⟨y1, y2, y3, y4⟩ : w2.heap[w1.heap.size]? = _ ∧ w2.heap[w1.heap.size + 1]? = _ ∧ w2.heap[w1.heap.size + 1 + 1]? = _ ∧ w2.heap[w1.heap.size + 1 + 1 + 1]? = _ := by rw [← hw2]; exact a4'
  rw [hw2]
  rw [z1] at y1 y2 y3 y4 b2 z2
  clear hw2 a4'
  have bb : Below B0 w w2 := b1.trans (b2.mono hB)
  have hC2 : Cc B0 D.H cB gK ga gv (r + 1) nm w2 := hCC.blk ((b2.block cB hcl).trans kc1) fun b hb _ _ => b2.block b (by omega)
  have lk := hCC.k.lt
  have la := hCC.a.lt
  refine flp_any 10 B evB N C (w.heap.size + 1 + 1) (w.heap.size + 1 + 1 + 1) w.heap.size cB gK ga gv (r + 1) i nm ev D (by omega) hi w2 (hI.below (bb.mono hBB)) (Nat.le_trans hBB (Nat.le_trans hB bb.size)) y3 y4 y1 hC2.box hC2.k hC2.a hC2.ne.1 (Nat.le_trans hBB hC2.ge.2.1) (Nat.le_trans hBB hC2.ge.2.2.1) (by omega) (by omega) (by omega) (by omega) hC2.ne.2.2.2.1 hC2.ne.2.2.2.2.1 (by omega) (by omega) ?_
  intro Dd W hDd hh
  obtain ⟨fr, nk, na, hd⟩ := hh.out
  have b3 : Below B0 w2 W := ⟨fr.os, fr.tape, fr.output, fr.size, fun k hk => fr.blk k (by omega) (by have := hC2.ge.2.1; omega) (by have := hC2.ge.2.2.1; omega)⟩
  have b4 := bb.trans b3
  have hC3 : Cc B0 D.H cB gK ga gv (r + 1) nm W := ⟨(fr.blk cB (blk_lt hC2.box) hC2.ne.2.2.2.1 hC2.ne.2.2.2.2.1).trans hC2.box, nk, na, hC2.v.same (fr.blk gv hC2.v.lt (Ne.symm hC2.ne.2.1) (Ne.symm hC2.ne.2.2.1)), hC2.ge, hC2.ne⟩
  obtain ⟨fk, hfk⟩ := hCC.k
  obtain ⟨fa, hfa⟩ := hCC.a
  refine hK _ _ ?_
  refine flt6_any F B B0 evB N C cB gK ga gv (r + 1) i gF w.heap.size (w.heap.size + 1) Dd fv nm ev D W (by rw [b4.tape]; exact hF) hi (hI.below (b4.mono hBB)) hBB (Nat.le_trans hB b4.size) ⟨hC3, xs, hxl, own_keep hx1 fun b c _ hc _ => (fr.blk b (by have := blk_lt hc; omega) (fun e => by rw [e, hfk] at hc; exact tagne hc (by decide)) (fun e => by rw [e, hfa] at hc; exact tagne hc (by decide))).trans ((b2.block b (by have := blk_lt hc; omega)).trans hc)⟩ (fun k hk => by rw [b4.cell (p := ⟨gF, k, none⟩) hgF]; exact hfv k hk) hgF
    ((fr.blk _ (by omega) (by omega) (by omega)).trans y1) ((fr.blk _ (by omega) (by omega) (by omega)).trans y2) hB (by omega) hd (by omega) ?_
  intro s a W' h1 h2 h3
  obtain ⟨tm, df⟩ := a
  simp only at h1 h2
  subst h2
  obtain ⟨g1, g2, nm', g3, ys, g4, g5⟩ := h3.out
  refine ⟨by simp, .inl ⟨_, _, rfl, run_takeDeferred g2, ?_⟩⟩
  have p1 : ∀ k, k ≠ Dd → (W'.putObj Dd (.deferred none)).heap[k]? = W'.heap[k]? := fun k hk => put_other hk
  have nd : ∀ {b : Nat} {c : Array Value} {t : TypeId} {x : Nat × Nat}, W'.heap[b]? = some (.cells c t x) → b ≠ Dd := fun {b c t x} h e => by rw [e, g2] at h; cases h
  obtain ⟨fk', hfk'⟩ := g3.k
  obtain ⟨fa', hfa'⟩ := g3.a
  obtain ⟨fv', hfv'⟩ := g3.v
  have g1' : Below B0 w W' := b4.trans g1
  refine ⟨_, results_tmp rfl _ _ _, s, by rw [h1], ⟨g1'.os, g1'.tape, g1'.output, by have := g1'.size; simpa using this, fun k hk => (p1 k (by omega)).trans (g1'.block k hk)⟩, nm', ⟨(p1 _ (nd g3.box)).trans g3.box, g3.k.same (p1 _ (nd hfk')), g3.a.same (p1 _ (nd hfa')), g3.v.same (p1 _ (nd hfv')), g3.ge, g3.ne⟩, ys, g4, own_keep g5 fun b c _ hc _ => (p1 b (nd hc)).trans hc⟩
end Go.Proofs.Qxb6613595aFmt
