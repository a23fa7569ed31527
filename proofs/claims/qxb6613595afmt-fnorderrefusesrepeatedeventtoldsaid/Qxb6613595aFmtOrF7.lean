import Derived.Test.Qxb6613595aFmtOrTs
namespace Go.Proofs.Qxb6613595aFmt
open Go.RowKit Go.Maps Go.Extern.Stop Go.Stop Go.Extern
attribute [local go_sem] Oper.semAt_some
attribute [local go_sem ↓] Go.wp_at_zero Go.wp_at_succ
set_option linter.unusedVariables false

def flt6 (fF : Func) : Code := sndC (sndC (sndC (fF.body.getD .skip)))
def flt6a (fF : Func) : Code := fstC (flt6 fF)
def flt7 (fF : Func) : Code := sndC (flt6 fF)

theorem tagne {a b : Array Value} {s t : TypeId} {x y : Nat × Nat} (h : some (Obj.cells a s x) = some (Obj.cells b t y)) (hne : s ≠ t) : False := by
  injection h with h
  injection h with _ h
  exact hne h

/-- The state of the causal check between two calls. -/
def CcS (B0 H N cB gK ga gv r : Nat) (nm : Value) (W : World) : Prop := Cc B0 H cB gK ga gv r nm W ∧ ∃ xs : List (NE H N), xs.length ≤ 1048577 ∧ W.ownsRow B0 52 2 nm xs.length (flatN xs)

theorem own_cell {w : World} {base : Nat} {e : TypeId} {size : Nat} {g n cap k : Nat} {xs : List Value} (h : w.ownsRow base e size (.slice (some ⟨g, 0, none⟩) n cap) k xs) (j : Nat) (hj : j < k * size) : w.cell? ⟨g, j, none⟩ = xs[j]? := by
  rcases h.2 with ⟨h, _⟩ | ⟨g', cap', cur, h1, _, hg, _, _, _, hct⟩
  · cases h
  · injection h1 with h1
    injection h1 with h1
    injection h1 with h1
    subst h1
    rw [cell_blk hg, ← hct, List.getElem?_take, if_pos hj, Array.getElem?_toList]

set_option maxRecDepth 20000 in
set_option maxHeartbeats 32000000 in
theorem flt7_any (F : Interp) (B B0 evB N C cB gK ga gv r i gF b4 b5 Dd : Nat) (fv : Nat → ByteArray) (q : Option Addr) (n cp : Nat) (ev : Nat → Ev) (D : IxD) (W : World) (hF : F.answers W.tape) (hi : i < N) (hI : Idx B evB N C ev D W) (hBB : B ≤ B0) (hB : B0 ≤ W.heap.size)
    (hC : Cc B0 D.H cB gK ga gv r (.slice q n cp) W) (xs : List (NE D.H N)) (hxl : xs.length ≤ 1048577) (hxn : xs.length = n) (hx : W.ownsRow B0 52 2 (.slice q n cp) xs.length (flatN xs)) (hfv : ∀ k, k < N → W.cell? ⟨gF, k, none⟩ = some (.string (fv k))) (hgF : gF < B0)
    (h4 : W.heap[b4]? = some (.cells #[.pointer (some ⟨cB, 0, none⟩)] 76 (0, 0))) (h5 : W.heap[b5]? = some (.cells #[.pointer (some ⟨D.A.x, 0, none⟩)] 44 (0, 0))) (hb4 : B0 ≤ b4) (hb5 : B0 ≤ b5) (hd : W.heap[Dd]? = some (.deferred (some []))) (hDd : B0 ≤ Dd)
    {v6 v7 v8 v9 v10 v11 v12 v13 v14 v15 v16 v17 v18 v19 v20 v21 v22 v23 v24 v25 v26 v27 v28 v29 v30 v31 v32 v33 v34 v35 v36 v37 v38 v39 v40 v41 v42 v43 v44 v45 v46 v47 v48 v49 v50 v51 v52 v53 v54 v55 v56 v57 v58 v59 v60 v61 v62 v63 v64 v65 v66 v67 v68 v69 v70 v71 v72 v73 v74 v75 v76 v77 v78 v79 v80 v81 v82 v83 v84 v85 v86 v87 v88 v89 v90 v91 v92 v93 v94 v95 v96 v97 v98 : Value} {Q : Exit → Act → World → Prop}
    (hQ : ∀ (s : ByteArray) (a : Act) (W' : World), a.tmps.getD 8 undef = .string s → a.defers = [{ target := .collected Dd, args := #[] }] → Hid (Below B0 W W' ∧ W'.heap[Dd]? = some (.deferred (some [])) ∧ ∃ nm, CcS B0 D.H N cB gK ga gv r nm W') → Q .ret a W') :
    Code.wp Tryf.prog (flt7 Tryf.f22) Q { tmps := List.toArray ((.pointer (some ⟨cB, 0, none⟩) : Value) :: (.pointer (some ⟨D.A.x, 0, none⟩) : Value) :: (.int .i64 (i : Int) : Value) :: (.slice (some ⟨gF, 0, none⟩) N N : Value) :: (.pointer (some ⟨b4, 0, none⟩) : Value) :: (.pointer (some ⟨b5, 0, none⟩) : Value) :: v6 :: v7 :: v8 :: v9 :: v10 :: v11 :: v12 :: v13 :: v14 :: v15 :: v16 :: v17 :: v18 :: v19 :: v20 :: v21 :: v22 :: v23 :: v24 :: v25 :: v26 :: v27 :: v28 :: v29 :: v30 :: v31 :: v32 :: v33 :: v34 :: v35 :: v36 :: v37 :: v38 :: v39 :: v40 :: v41 :: v42 :: v43 :: v44 :: v45 :: v46 :: v47 :: v48 :: v49 :: v50 :: v51 :: v52 :: v53 :: v54 :: v55 :: v56 :: v57 :: v58 :: v59 :: v60 :: v61 :: v62 :: v63 :: v64 :: v65 :: v66 :: v67 :: v68 :: v69 :: v70 :: v71 :: v72 :: v73 :: v74 :: v75 :: v76 :: v77 :: v78 :: v79 :: v80 :: v81 :: v82 :: v83 :: v84 :: v85 :: v86 :: v87 :: v88 :: v89 :: v90 :: v91 :: v92 :: v93 :: v94 :: v95 :: v96 :: v97 :: v98 :: []), defers := [{ target := .collected Dd, args := #[] }] } W := by
  have e : (flt7 Tryf.f22) = (flt7 Tryf.f22) := rfl
  conv at e => rhs; whnf
  rw [e]
  clear e
  have t4 : W.cell? ⟨b4, 0, none⟩ = some (.pointer (some ⟨cB, 0, none⟩)) := cell_blk h4 0
  have t5 : W.cell? ⟨b5, 0, none⟩ = some (.pointer (some ⟨D.A.x, 0, none⟩)) := cell_blk h5 0
  have tc : W.cell? ⟨cB, 4, none⟩ = some (.slice q n cp) := cell_blk hC.box 4
  have hob : ∀ b, Value.ownBlock (.slice q n cp) = some b → B0 ≤ b ∧ ∃ c, W.heap[b]? = some (.cells c 52 (0, 0)) := fun b hb => own_tag hx hb
  have no : ∀ {b : Nat} {o : Obj}, W.heap[b]? = some o → (∀ c, o ≠ .cells c 52 (0, 0)) → some b ≠ Value.ownBlock (.slice q n cp) := fun {b o} h1 h2 e => by
    obtain ⟨_, c, h3⟩ := hob b e.symm
    rw [h1] at h3
    exact h2 c (Option.some.inj h3)
  have low : ∀ {b : Nat}, b < B0 → some b ≠ Value.ownBlock (.slice q n cp) := fun {b} h1 e => by have := (hob b e.symm).1; omega
  obtain ⟨fk, hfk⟩ := hC.k
  obtain ⟨fa, hfa⟩ := hC.a
  obtain ⟨fv', hfv'⟩ := hC.v
  have H40 : Hid (Calls Tryf.prog 40 #[.slice q n cp, .func (.func 41) #[] #[.pointer (some ⟨b5, 0, none⟩)]] W fun e w' => e = .returned (.tuple #[]) ∧ w'.cell? ⟨b4, 0, none⟩ = some (.pointer (some ⟨cB, 0, none⟩)) ∧ w'.cell? ⟨cB, 4, none⟩ = some (.slice q n cp) ∧
      Hid (Below B0 W w' ∧ Cc B0 D.H cB gK ga gv r (.slice q n cp) w' ∧ w'.heap[b4]? = some (.cells #[.pointer (some ⟨cB, 0, none⟩)] 76 (0, 0)) ∧ w'.heap[b5]? = some (.cells #[.pointer (some ⟨D.A.x, 0, none⟩)] 44 (0, 0)) ∧ w'.heap[Dd]? = some (.deferred (some [])) ∧ ∃ ys : List (NE D.H N), ys.length = n ∧ w'.ownsRow B0 52 2 (.slice q n cp) ys.length (flatN ys))) := by
    have lt := hI.lt
    refine (sort40_any D.A.x b5 D.A.wt N B0 D.H D.W (.slice q n cp) xs W hx (by omega) t5 (cell_blk hI.box 5) hI.wt (no h5 (fun c e => by cases e)) (low (Nat.lt_of_lt_of_le (lt _ (by simp [Adr.list])) hBB)) (low (Nat.lt_of_lt_of_le (lt _ (by simp [Adr.list])) hBB))).mono ?_
    rintro e w' ⟨rfl, hfr, ys, hp, hys⟩
    have k4 := (hfr.blk b4 (blk_lt h4) (no h4 (fun c e => by cases e))).trans h4
    have kc := (hfr.blk cB (blk_lt hC.box) (no hC.box (fun c e => by cases e))).trans hC.box
    refine ⟨rfl, cell_blk k4 0, cell_blk kc 4, ⟨hfr.os, hfr.tape, hfr.output, hfr.size, fun k hk => hfr.blk k (by omega) (low hk)⟩, ⟨kc, hC.k.same (hfr.blk gK hC.k.lt (no hfk (fun c e => by cases e))), hC.a.same (hfr.blk ga hC.a.lt (no hfa (fun c e => by cases e))), hC.v.same (hfr.blk gv hC.v.lt (no hfv' (fun c e => by cases e))), hC.ge, hC.ne⟩, k4, (hfr.blk b5 (blk_lt h5) (no h5 (fun c e => by cases e))).trans h5, (hfr.blk Dd (blk_lt hd) (no hd (fun c e => by cases e))).trans hd, ys, hp.length_eq.trans hxn, hys⟩
  have HI : Hid (Idx B evB N C ev D W ∧ F.answers W.tape ∧ ∀ k, k < N → W.cell? ⟨gF, k, none⟩ = some (.string (fv k))) := ⟨hI, hF, hfv⟩
  have HQ : Hid _ := hQ
  have n4 : b4 ≠ gv := fun e => by rw [e, hfv'] at h4; exact tagne h4 (by decide)
  have n5 : b5 ≠ gv := fun e => by rw [e, hfv'] at h5; exact tagne h5 (by decide)
  have nD : Dd ≠ gv := fun e => by rw [e, hfv'] at hd; cases hd
  have nv : some gv ≠ Value.ownBlock (.slice q n cp) := no hfv' (fun c e => by cases e)
  have hne := hC.ne
  have hge := hC.ge
  have hn : n ≤ 1048577 := by omega
  clear hI hF hfv hC hx hd h4 h5 hQ hob no low hfk hfa hfv' fk fa fv'
  go_wp2_with (go_at_call 40; refine H40.out.mono ?_; rintro e W3 ⟨rfl, u4, uc, HW3⟩)
  have HB : Hid (∀ W' : World, FrA (some gv) W3 W' → Idx B evB N C ev D W' ∧ F.answers W'.tape ∧ Below B0 W W' ∧ W'.heap[b4]? = some (.cells #[.pointer (some ⟨cB, 0, none⟩)] 76 (0, 0)) ∧ W'.heap[b5]? = some (.cells #[.pointer (some ⟨D.A.x, 0, none⟩)] 44 (0, 0)) ∧ W'.heap[Dd]? = some (.deferred (some [])) ∧ (Nums W' gv D.H 3 .i64 → Cc B0 D.H cB gK ga gv r (.slice q n cp) W') ∧ (∀ k, k < N → W'.cell? ⟨gF, k, none⟩ = some (.string (fv k))) ∧ ∃ ys : List (NE D.H N), ys.length = n ∧ W'.ownsRow B0 52 2 (.slice q n cp) ys.length (flatN ys)) := fun W' h => by
    obtain ⟨b1, cc, k4, k5, kd, ys, hyn, hys⟩ := HW3.out
    have b2 : Below B0 W W' := b1.trans (h.below hge.2.2.2 (Nat.le_trans hB b1.size))
    refine ⟨HI.out.1.below (b2.mono hBB), by rw [b2.tape]; exact HI.out.2.1, b2, (h.blk b4 (blk_lt k4) (fun e => n4 (Option.some.inj e))).trans k4, (h.blk b5 (blk_lt k5) (fun e => n5 (Option.some.inj e))).trans k5, (h.blk Dd (blk_lt kd) (fun e => nD (Option.some.inj e))).trans kd, fun hv => ⟨(h.blk cB (blk_lt cc.box) (fun e => hne.2.2.2.2.2 (Option.some.inj e))).trans cc.box, cc.k.same (h.blk gK cc.k.lt (fun e => hne.2.1 (Option.some.inj e))), cc.a.same (h.blk ga cc.a.lt (fun e => hne.2.2.1 (Option.some.inj e))), hv, hge, hne⟩, fun k hk => ?_, ys, hyn, own_keep hys fun b c hb hc ho => (h.blk b (blk_lt hc) (fun e => nv (by rw [← ho, e]))).trans hc⟩
    rw [b2.cell (p := ⟨gF, k, none⟩) hgF]
    exact HI.out.2.2 k hk
  have HV : Hid (Nums W3 gv D.H 3 .i64) := HW3.out.2.1.v
  clear HW3 HI H40 t4 t5 tc
  go_loopg [66] n (fun k s66 wr => ∃ p : Nat, s66 = .int .i64 (p : Int) ∧ p ≤ n ∧ n - p ≤ k ∧ Hid (FrA (some gv) W3 wr ∧ Nums wr gv D.H 3 .i64))
  case atStart => exact ⟨0, rfl, by omega, by omega, FrA.refl _ _, HV.out⟩
  case round =>
    obtain ⟨p, rfl, g1, g2, hR⟩ := hrel
    by_cases hlt : p < n
    · obtain ⟨I1, A1, b1, k4, k5, kd, kC, kf, ys, hyn, hys⟩ := HB.out _ hR.out.1
      obtain ⟨g, rfl⟩ : ∃ g, q = some ⟨g, 0, none⟩ := by
        rcases hys.2 with ⟨h, h2⟩ | ⟨g, cap, cur, h, _⟩
        · omega
        · injection h with h; exact ⟨g, h⟩
      obtain ⟨x, hx⟩ : ∃ x, ys[p]? = some x := ⟨ys[p]'(by omega), List.getElem?_eq_getElem (by omega)⟩
      obtain ⟨⟨h, j⟩, hh, hj⟩ := x
      simp only at hh hj
      have c0 : wr.cell? ⟨g, p * 2, none⟩ = some (.int .i64 (h : Nat)) := by
        have := own_cell hys (p * 2) (by omega)
        rw [this, show p * 2 = 2 * p + 0 by omega, flatN_get ys p 0 _ hx (by omega)]; rfl
      have c1 : wr.cell? ⟨g, p * 2 + 1, none⟩ = some (.int .i64 (j : Nat)) := by
        have := own_cell hys (p * 2 + 1) (by omega)
        rw [this, show p * 2 + 1 = 2 * p + 1 by omega, flatN_get ys p 1 _ hx (by omega)]; rfl
      clear I1 A1 b1 k4 k5 kd kC kf ys hyn hys hx
      have i3 : (p : Int) < (n : Int) := by omega
      go_wp2_with fail
      obtain ⟨W4, hW4⟩ : ∃ W4, wr.alloc (Obj.cells #[Value.int IntKind.i64 (h : Int), Value.int IntKind.i64 (j : Int)] 52) = W4 := ⟨_, rfl⟩
      have B4 : Hid (FrA (some gv) W3 W4 ∧ Nums W4 gv D.H 3 .i64) := by
        rw [← hW4]
        have b := (Below.refl wr.heap.size wr).alloc (Nat.le_refl _) (Obj.cells #[Value.int IntKind.i64 (h : Int), Value.int IntKind.i64 (j : Int)] 52)
        exact ⟨hR.out.1.trans (FrA.ofBelow b), hR.out.2.same (b.block _ hR.out.2.lt)⟩
      have x0 : W4.cell? ⟨wr.heap.size, 0, none⟩ = some (.int .i64 (h : Int)) := by rw [← hW4, cell_blk (heap_alloc_new wr _)]; rfl
      have x1 : W4.cell? ⟨wr.heap.size, 1, none⟩ = some (.int .i64 (j : Int)) := by rw [← hW4, cell_blk (heap_alloc_new wr _)]; rfl
      have nx : wr.heap.size ≠ gv := by have := hR.out.2.lt; omega
      rw [hW4]
      clear hW4 c0 c1
      obtain ⟨I1, A1, b1, k4, k5, kd, kC, kf, _⟩ := HB.out _ B4.out.1
      have kC' := kC B4.out.2
      obtain ⟨nn, z1, _⟩ := B4.out.2.cell h hh
      have y4 : W4.cell? ⟨b4, 0, none⟩ = some (.pointer (some ⟨cB, 0, none⟩)) := cell_blk k4 0
      have y5 : W4.cell? ⟨b5, 0, none⟩ = some (.pointer (some ⟨D.A.x, 0, none⟩)) := cell_blk k5 0
      have q0 : W4.cell? ⟨cB, 0, none⟩ = some (.int .i64 (r : Nat)) := cell_blk kC'.box 0
      have q3 : W4.cell? ⟨cB, 3, none⟩ = some (.slice (some ⟨gv, 0, none⟩) D.H D.H) := cell_blk kC'.box 3
      have yf := kf j hj
      generalize fv j = fs at yf
      have H42 : Hid (∀ vo : Bool, Calls Tryf.prog 42 #[.pointer (some ⟨cB, 0, none⟩), .pointer (some ⟨D.A.x, 0, none⟩), .int .i64 (j : Int), .int .i64 (i : Int), .bool vo] W4.drew.drew fun e w' => ∃ s, e = .returned (.string s) ∧ w'.cell? ⟨b4, 0, none⟩ = some (.pointer (some ⟨cB, 0, none⟩)) ∧ w'.cell? ⟨b5, 0, none⟩ = some (.pointer (some ⟨D.A.x, 0, none⟩)) ∧ w'.cell? ⟨wr.heap.size, 1, none⟩ = some (.int .i64 (j : Int)) ∧ w'.cell? ⟨gF, j, none⟩ = some (.string fs) ∧ Hid (FrA (some gv) W3 w' ∧ Nums w' gv D.H 3 .i64)) := fun vo => by
        refine (test_any F B evB N C cB gK ga gv r i j vo _ ev D W4.drew.drew A1 hi hj (I1.below ((Below.refl _ W4).drew.drew)) (Nat.le_trans hBB (Nat.le_trans hB b1.size)) (Nat.le_trans hBB hge.2.2.2) kC'.box kC'.k kC'.a kC'.v hne.2.1 hne.2.2.1 hne.2.2.2.2.2).mono ?_
        rintro e w' ⟨s, rfl, h1⟩
        have tr : ∀ {a : Addr} {v : Value}, W4.cell? a = some v → a.block ≠ gv → w'.cell? a = some v := fun {a v} h2 h3 => by
          rw [← h2]
          exact World.cell?_of_block (h1.out.1.blk a.block (World.block_lt_of_cell? _ _ h2) (fun e => h3 (Option.some.inj e)))
        exact ⟨s, rfl, tr y4 n4, tr y5 n5, tr x1 nx, tr yf (by have := hge.2.2.2; simp only; omega), (B4.out.1.trans (FrA.ofBelow ((Below.refl _ W4).drew.drew))).trans h1.out.1, h1.out.2⟩
      clear I1 A1 b1 k4 k5 kd kC kf kC'
      have i4 : (h : Int) < (D.H : Int) := by omega
      have i5 : (j : Int) < (N : Int) := by omega
      by_cases hnr : nn = r
      · subst hnr
        go_region_held3 (fun w' => w'.cell? ⟨b4, 0, none⟩ = some (.pointer (some ⟨cB, 0, none⟩)) ∧ w'.cell? ⟨cB, 3, none⟩ = some (.slice (some ⟨gv, 0, none⟩) D.H D.H) ∧ w'.cell? ⟨wr.heap.size, 0, none⟩ = some (.int .i64 (h : Int)) ∧ w'.cell? ⟨gv, h, none⟩ = some (.int .i64 (nn : Nat)) ∧ w'.cell? ⟨cB, 0, none⟩ = some (.int .i64 (nn : Nat))) (first | exact ⟨y4, q3, x0, z1, q0⟩ | go_keep) (fail)
        go_wp2_with fail
        go_roundg (n - (p + 1))
        case measure => omega
        case rel => exact ⟨p + 1, by rw [show (p : Int) + 1 = ((p + 1 : Nat) : Int) by omega], by omega, Nat.le_refl _, B4.out.1.trans (FrA.ofBelow (Below.refl _ W4).drew), B4.out.2.same rfl⟩
      · have hnr2 : ¬ (nn : Int) = (r : Int) := by omega
        go_region_held3 (fun w' => w'.cell? ⟨b4, 0, none⟩ = some (.pointer (some ⟨cB, 0, none⟩)) ∧ w'.cell? ⟨cB, 3, none⟩ = some (.slice (some ⟨gv, 0, none⟩) D.H D.H) ∧ w'.cell? ⟨wr.heap.size, 0, none⟩ = some (.int .i64 (h : Int)) ∧ w'.cell? ⟨gv, h, none⟩ = some (.int .i64 (nn : Nat)) ∧ w'.cell? ⟨cB, 0, none⟩ = some (.int .i64 (r : Nat))) (first | exact ⟨y4, q3, x0, z1, q0⟩ | go_keep) (fail)
        go_wp2_with fail
        go_region_held3 (fun w' => w'.cell? ⟨b4, 0, none⟩ = some (.pointer (some ⟨cB, 0, none⟩)) ∧ w'.cell? ⟨b5, 0, none⟩ = some (.pointer (some ⟨D.A.x, 0, none⟩)) ∧ w'.cell? ⟨wr.heap.size, 1, none⟩ = some (.int .i64 (j : Int)) ∧ w'.cell? ⟨gF, j, none⟩ = some (.string fs)) (first | exact ⟨y4, y5, x1, yf⟩ | exact ⟨m4, m5, m1, mf⟩ | go_keep) (first | (go_at_call 42; refine (H42.out _).mono ?_; rintro e W6 ⟨s, rfl, m4, m5, m1, mf, HW6⟩))
        clear y4 y5 x1 yf m4 m5 m1 mf x0 z1 q0 q3
        go_wp2_with fail
        · obtain ⟨I1, A1, b1, k4, k5, kd, kC, kf, ys, hyn, hys⟩ := HB.out _ HW6.out.1
          have hyl : ys.length ≤ 1048577 := by omega
          exact HQ.out _ _ _ rfl rfl ⟨b1, kd, _, kC HW6.out.2, ys, hyl, hys⟩
        · go_roundg (n - (p + 1))
          case measure => omega
          case rel => exact ⟨p + 1, by rw [show (p : Int) + 1 = ((p + 1 : Nat) : Int) by omega], by omega, Nat.le_refl _, HW6⟩
    · obtain rfl : p = n := by omega
      go_wp2_with fail
      obtain ⟨I1, A1, b1, k4, k5, kd, kC, kf, ys, hyn, hys⟩ := HB.out _ hR.out.1
      have hyl : ys.length ≤ 1048577 := by omega
      exact HQ.out _ _ _ rfl rfl ⟨b1, kd, _, kC hR.out.2, ys, hyl, hys⟩
end Go.Proofs.Qxb6613595aFmt
