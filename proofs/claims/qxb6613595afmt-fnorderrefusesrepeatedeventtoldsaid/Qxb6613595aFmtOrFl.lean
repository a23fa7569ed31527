import Derived.Test.Qxb6613595aFmtOrR5
namespace Go.Proofs.Qxb6613595aFmt
open Go.RowKit Go.Maps Go.Shelf
attribute [local go_sem] Oper.semAt_some
set_option linter.unusedVariables false

/-- Of what lay, nothing but two rows has turned. -/
structure FrB (gk ga : Nat) (w W : World) : Prop where
  os : W.os = w.os
  tape : W.tape = w.tape
  output : W.output = w.output
  size : w.heap.size ≤ W.heap.size
  blk : ∀ b, b < w.heap.size → b ≠ gk → b ≠ ga → W.heap[b]? = w.heap[b]?

set_option maxRecDepth 20000 in
set_option maxHeartbeats 16000000 in
theorem flp_any (n B evB N C bx bi b4 cB gk ga gv r i : Nat) (nm : Value) (ev : Nat → Ev) (D : IxD) (hn : 3 ≤ n) (hi : i < N) (w : World) (hI : Idx B evB N C ev D w) (hB : B ≤ w.heap.size) (h1 : w.heap[bx]? = some (.cells #[.pointer (some ⟨D.A.x, 0, none⟩)] 44 (0, 0))) (h2 : w.heap[bi]? = some (.cells #[.int .i64 (i : Int)] 3 (0, 0)))
    (h4 : w.heap[b4]? = some (.cells #[.pointer (some ⟨cB, 0, none⟩)] 76 (0, 0))) (hc : w.heap[cB]? = some (.cells #[.int .i64 (r : Nat), .slice (some ⟨gk, 0, none⟩) D.H D.H, .slice (some ⟨ga, 0, none⟩) D.H D.H, .slice (some ⟨gv, 0, none⟩) D.H D.H, nm] 104 (0, 0)))
    (hk : Nums w gk D.H 42 .u64) (ha : Nums w ga D.H 3 .i64) (hne : gk ≠ ga) (hk1 : B ≤ gk) (ha1 : B ≤ ga) (hb1 : bx ≠ ga) (hb2 : bi ≠ ga) (hb3 : bi ≠ gk) (hb4 : bx ≠ gk) (hcg : cB ≠ gk) (hca : cB ≠ ga) (hbg : b4 ≠ gk) (hba : b4 ≠ ga)
    {v0 v1 v2 v3 v5 v6 v7 v8 v9 v10 v11 v12 v13 v14 v15 v16 v17 v18 v19 v20 v21 v22 v24 v25 v26 v27 v28 v29 v30 v31 v32 v33 v34 v35 v36 v37 v38 v39 v40 v41 v42 v43 v44 v45 v46 v47 v48 v49 v50 v51 v52 v53 v54 v55 v56 v57 v58 v59 v60 v61 v62 v63 v64 v65 v66 v67 v68 v69 v70 v71 v72 v73 v74 v75 v76 v77 v78 v79 v80 v81 v82 v83 v84 v85 v86 v87 v88 v89 v90 v91 v92 v93 v94 v95 v96 v97 v98 : Value} {Q : Exit → Act → World → Prop}
    (hK : ∀ (Dd : Nat) (W : World), w.heap.size ≤ Dd → Hid (FrB gk ga w W ∧ Nums W gk D.H 42 .u64 ∧ Nums W ga D.H 3 .i64 ∧ W.heap[Dd]? = some (.deferred (some []))) → Q .normal { tmps := List.toArray (v0 :: v1 :: v2 :: v3 :: (.pointer (some ⟨b4, 0, none⟩) : Value) :: v5 :: v6 :: v7 :: v8 :: v9 :: v10 :: v11 :: v12 :: v13 :: v14 :: v15 :: v16 :: v17 :: v18 :: v19 :: v20 :: v21 :: v22 :: (.func (.func 43) #[] #[.pointer (some ⟨bx, 0, none⟩), .pointer (some ⟨bi, 0, none⟩)] : Value) :: v24 :: v25 :: v26 :: v27 :: v28 :: v29 :: v30 :: v31 :: v32 :: v33 :: v34 :: v35 :: v36 :: v37 :: v38 :: v39 :: v40 :: v41 :: v42 :: v43 :: v44 :: v45 :: v46 :: v47 :: v48 :: v49 :: v50 :: v51 :: v52 :: v53 :: v54 :: v55 :: v56 :: v57 :: v58 :: v59 :: v60 :: v61 :: v62 :: v63 :: v64 :: v65 :: v66 :: v67 :: v68 :: v69 :: v70 :: v71 :: v72 :: v73 :: v74 :: v75 :: v76 :: v77 :: v78 :: v79 :: v80 :: v81 :: v82 :: v83 :: v84 :: v85 :: v86 :: v87 :: v88 :: v89 :: v90 :: v91 :: v92 :: v93 :: v94 :: v95 :: v96 :: v97 :: v98 :: []), defers := [{ target := .collected Dd, args := #[] }] } W) :
    Code.wp Tryf.prog (flp Tryf.f22) Q { tmps := List.toArray (v0 :: v1 :: v2 :: v3 :: (.pointer (some ⟨b4, 0, none⟩) : Value) :: v5 :: v6 :: v7 :: v8 :: v9 :: v10 :: v11 :: v12 :: v13 :: v14 :: v15 :: v16 :: v17 :: v18 :: v19 :: v20 :: v21 :: v22 :: (.func (.func 43) #[] #[.pointer (some ⟨bx, 0, none⟩), .pointer (some ⟨bi, 0, none⟩)] : Value) :: v24 :: v25 :: v26 :: v27 :: v28 :: v29 :: v30 :: v31 :: v32 :: v33 :: v34 :: v35 :: v36 :: v37 :: v38 :: v39 :: v40 :: v41 :: v42 :: v43 :: v44 :: v45 :: v46 :: v47 :: v48 :: v49 :: v50 :: v51 :: v52 :: v53 :: v54 :: v55 :: v56 :: v57 :: v58 :: v59 :: v60 :: v61 :: v62 :: v63 :: v64 :: v65 :: v66 :: v67 :: v68 :: v69 :: v70 :: v71 :: v72 :: v73 :: v74 :: v75 :: v76 :: v77 :: v78 :: v79 :: v80 :: v81 :: v82 :: v83 :: v84 :: v85 :: v86 :: v87 :: v88 :: v89 :: v90 :: v91 :: v92 :: v93 :: v94 :: v95 :: v96 :: v97 :: v98 :: []), defers := [] } w := by
  have e : (flp Tryf.f22) = (flp Tryf.f22) := rfl
  conv at e => rhs; whnf
  rw [e]
  clear e
  refine (wpIn_wide (n := n)).1 ?_
  have hS := known_stops (n - 1) B evB N C bx bi i ev D (by omega) hi w hI hB h1 h2
  refine wpIn_rangeFunc_ownG rfl (by omega) (gf := 43) (lb := #[.pointer (some ⟨bx, 0, none⟩), .pointer (some ⟨bi, 0, none⟩)]) rfl trivial (enters_of Tryf.func43 (by kernel_rfl) rfl) hS Kp.t ?kb (Below.refl _ _) (fun _ => rfl)
    (fun pre W => FrB gk ga w W ∧ Nums W gk D.H 42 .u64 ∧ Nums W ga D.H 3 .i64) (fun _ _ _ => False) ?hI (fun _ _ _ _ _ hs _ _ => hs) ⟨⟨rfl, rfl, rfl, Nat.le_refl _, fun _ _ _ _ => rfl⟩, hk, ha⟩
    (fun x => { tmps := List.toArray (v0 :: v1 :: v2 :: v3 :: (.pointer (some ⟨b4, 0, none⟩) : Value) :: v5 :: v6 :: v7 :: v8 :: (.int .i64 (x.1.1 : Nat) : Value) :: (.int .u64 (x.1.2 : Nat) : Value) :: v11 :: v12 :: v13 :: v14 :: v15 :: v16 :: v17 :: v18 :: v19 :: v20 :: v21 :: v22 :: (.func (.func 43) #[] #[.pointer (some ⟨bx, 0, none⟩), .pointer (some ⟨bi, 0, none⟩)] : Value) :: (.int .i64 (x.1.1 : Nat) : Value) :: (.int .u64 (x.1.2 : Nat) : Value) :: v26 :: v27 :: v28 :: v29 :: v30 :: v31 :: v32 :: v33 :: v34 :: v35 :: v36 :: v37 :: v38 :: v39 :: v40 :: v41 :: v42 :: v43 :: v44 :: v45 :: v46 :: v47 :: v48 :: v49 :: v50 :: v51 :: v52 :: v53 :: v54 :: v55 :: v56 :: v57 :: v58 :: v59 :: v60 :: v61 :: v62 :: v63 :: v64 :: v65 :: v66 :: v67 :: v68 :: v69 :: v70 :: v71 :: v72 :: v73 :: v74 :: v75 :: v76 :: v77 :: v78 :: v79 :: v80 :: v81 :: v82 :: v83 :: v84 :: v85 :: v86 :: v87 :: v88 :: v89 :: v90 :: v91 :: v92 :: v93 :: v94 :: v95 :: v96 :: v97 :: v98 :: []), defers := [] }) ?assign ?body ?done ?stop
  case kb =>
    intro W l o o' hl ho _ _
    have hlt := blk_lt ho
    exact ⟨(Below.refl _ W).grown (grownBy_putObj' W l o') (by omega) (fun k e => by cases e; omega), World.putObj_heap_other (fun e => by have := blk_lt h1; omega), World.putObj_heap_other (fun e => by have := blk_lt h2; omega)⟩
  case hI =>
    rintro s X Y row ⟨b, k, a⟩ hg hr
    have keep : ∀ b', b' < w.heap.size → Y.heap[b']? = X.heap[b']? := fun b' hb' => hg.block b' (Nat.lt_of_lt_of_le hb' b.size) (fun e => by have := (hr b' e.symm).1; omega)
    exact ⟨⟨hg.os.trans b.os, hg.tape.trans b.tape, hg.output.trans b.output, Nat.le_trans b.size hg.size, fun b' h1 h2 h3 => (keep b' h1).trans (b.blk b' h1 h2 h3)⟩, k.same (keep _ hk.lt), a.same (keep _ ha.lt)⟩
  case assign =>
    intro l x W K hK
    obtain ⟨⟨x1, x2⟩, x3⟩ := x
    simp only [encKN]
    gi_wp2
    exact hK
  case body =>
    rintro l pre ⟨⟨x1, x2⟩, x3⟩ W ⟨b, k, a⟩ _
    refine wpIn_block ?_
    refine r5_any (n - 1 - 1) l b4 cB gk ga gv D.H x1 x2 r nm x3.1 hne hcg hca hbg hba (fun j => (List.toArray (v0 :: v1 :: v2 :: v3 :: (.pointer (some ⟨b4, 0, none⟩) : Value) :: v5 :: v6 :: v7 :: v8 :: (.int .i64 (x1 : Nat) : Value) :: (.int .u64 (x2 : Nat) : Value) :: v11 :: v12 :: v13 :: v14 :: v15 :: v16 :: v17 :: v18 :: v19 :: v20 :: v21 :: v22 :: (.func (.func 43) #[] #[.pointer (some ⟨bx, 0, none⟩), .pointer (some ⟨bi, 0, none⟩)] : Value) :: (.int .i64 (x1 : Nat) : Value) :: (.int .u64 (x2 : Nat) : Value) :: v26 :: v27 :: v28 :: v29 :: v30 :: v31 :: v32 :: v33 :: v34 :: v35 :: v36 :: v37 :: v38 :: v39 :: v40 :: v41 :: v42 :: v43 :: v44 :: v45 :: v46 :: v47 :: v48 :: v49 :: v50 :: v51 :: v52 :: v53 :: v54 :: v55 :: v56 :: v57 :: v58 :: v59 :: v60 :: v61 :: v62 :: v63 :: v64 :: v65 :: v66 :: v67 :: v68 :: v69 :: v70 :: v71 :: v72 :: v73 :: v74 :: v75 :: v76 :: v77 :: v78 :: v79 :: v80 :: v81 :: v82 :: v83 :: v84 :: v85 :: v86 :: v87 :: v88 :: v89 :: v90 :: v91 :: v92 :: v93 :: v94 :: v95 :: v96 :: v97 :: v98 :: [])).getD j undef) W ((b.blk _ (blk_lt h4) hbg hba).trans h4) ((b.blk _ (blk_lt hc) hcg hca).trans hc) k a ?_
    intro a' W' b' k' a''
    have hg := hk.lt
    have hh := ha.lt
    exact ⟨⟨Nat.le_of_eq b'.size, fun j o hj hjo _ => (b'.blk j (by omega) (by omega)).trans hjo⟩, ⟨⟨b'.os, b'.tape, b'.output, Nat.le_of_eq b'.size, fun j hj => b'.blk j (by omega) (by omega)⟩, b'.blk bx hb4 hb1, b'.blk bi hb3 hb2⟩, ⟨b'.os.trans b.os, b'.tape.trans b.tape, b'.output.trans b.output, by have := b.size; have := b'.size; omega, fun j h1 h2 h3 => (b'.blk j h2 h3).trans (b.blk j h1 h2 h3)⟩, k', a''⟩
  case done =>
    rintro Dd xs W hD _ ⟨b, k, a⟩ hd
    exact hK Dd W hD ⟨b, k, a, hd⟩
  case stop =>
    rintro _ _ _ _ _ _ h _
    exact h.elim
end Go.Proofs.Qxb6613595aFmt
