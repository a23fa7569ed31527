import Derived.Test.Qxb6613595aFmtOrFt
import Derived.Test.Qxb6613595aFmtOrCk3
namespace Go.Proofs.Qxb6613595aFmt
open Go.RowKit Go.Maps Go.Extern.Stop Go.Stop Go.Extern
attribute [local go_sem ↓] Go.wp_at_zero Go.wp_at_succ
set_option linter.unusedVariables false

def ck11a (fF : Func) : Code := fstC (ck11 fF)
def ck12 (fF : Func) : Code := sndC (ck11 fF)

/-- What lay below B0 is as it was, but for one row. -/
structure Fx (g B0 : Nat) (w W : World) : Prop where
  os : W.os = w.os
  tape : W.tape = w.tape
  output : W.output = w.output
  size : w.heap.size ≤ W.heap.size
  blk : ∀ b, b < B0 → b ≠ g → W.heap[b]? = w.heap[b]?
theorem Fx.refl (g B0 : Nat) (w : World) : Fx g B0 w w := ⟨rfl, rfl, rfl, Nat.le_refl _, fun _ _ _ => rfl⟩
theorem Fx.below {g B0 B : Nat} {w W W' : World} (h : Fx g B0 w W) (k : Below B W W') (hB : B0 ≤ B) : Fx g B0 w W' := ⟨k.os.trans h.os, k.tape.trans h.tape, k.output.trans h.output, Nat.le_trans h.size k.size, fun b h1 h2 => (k.block b (by omega)).trans (h.blk b h1 h2)⟩
theorem Fx.set {g B0 : Nat} {w W : World} (h : Fx g B0 w W) (i : Nat) (v : Value) : Fx g B0 w (W.setCell ⟨g, i, none⟩ v) := ⟨h.os, h.tape, h.output, by have := h.size; simpa [World.setCell] using this, fun k hk hne => (Below.heap_setCell W _ _ k hne).trans (h.blk k hk hne)⟩
theorem Fx.to {g B0 B : Nat} {w W : World} (h : Fx g B0 w W) (hg : B ≤ g) (hB : B ≤ B0) : Below B w W := ⟨h.os, h.tape, h.output, h.size, fun k hk => h.blk k (by omega) (by omega)⟩
theorem CcS.blk {B0 H N cB gK ga gv r : Nat} {nm : Value} {w w' : World} (h : CcS B0 H N cB gK ga gv r nm w) (hb : ∀ b, B0 ≤ b → w'.heap[b]? = w.heap[b]?) : CcS B0 H N cB gK ga gv r nm w' := by
  obtain ⟨c, xs, h1, h2⟩ := h
  have g := c.ge
  exact ⟨⟨(hb _ g.1).trans c.box, c.k.same (hb _ g.2.1), c.a.same (hb _ g.2.2.1), c.v.same (hb _ g.2.2.2), c.ge, c.ne⟩, xs, h1, own_keep h2 fun b d hb' hc _ => (hb b hb').trans hc⟩

set_option maxRecDepth 20000 in
set_option maxHeartbeats 32000000 in
theorem ck11_any (F : Interp) (B evB N C b5 gF a0 : Nat) (q : Option Addr) (n cp : Nat) (fs : Nat → ByteArray) (ev : Nat → Ev) (D : IxD) (w W : World) (hF : F.answers W.tape) (hb : Below w.heap.size w W) (hwB : w.heap.size ≤ B) (hI : Idx B evB N C ev D W) (hB : B ≤ W.heap.size)
    (h5 : W.heap[b5]? = some (.cells #[.pointer (some ⟨D.A.x, 0, none⟩)] 44 (0, 0))) (hfs : Row W gF N 9 (fun k => .string (fs k))) (hgF : B ≤ gF) (xs : List (NI N)) (hx : W.ownsRow B 3 1 (.slice q n cp) xs.length (xs.map encI)) (hxn : xs.length = n) (hn : n ≤ 4098) (hxb : ∀ x ∈ xs, ¬ Bad D x.1) (ha : a0 < N) (hab : Bad D a0) (hbad : ∀ k, k < N → Bad D k → NEs (fs k))
    {v1 v2 v3 v4 v8 v9 v10 v11 v12 v13 v14 v15 v16 v17 v18 v19 v20 v21 v22 v23 v24 v25 v26 v27 v28 v29 v30 v31 v32 v33 v34 v35 v36 v37 v38 v39 v40 v41 v42 v43 v44 v45 v46 v47 v48 v49 v50 v51 v52 v53 v54 v55 v56 v57 v58 v59 v60 v61 v62 v63 v64 v65 v66 v67 v68 v69 v70 v71 v72 v73 v74 v75 v76 v77 v78 v79 v80 v81 v82 : Value} {K1 : Act → World → Prop}
    (q1 : ∀ a w', Code.wp Tryf.prog (ck12 Tryf.f10) (bodyPost Tryf.prog Tryf.f10 fun e w' => Below w.heap.size w w' ∧ ∃ b, e = .returned (.tuple #[.pointer none, .slice none 0 0, .iface 79 (.pointer (some ⟨b, 0, none⟩))])) a w' → K1 a w') :
    Code.wp Tryf.prog (ck11a Tryf.f10) (Exit.then K1 (bodyPost Tryf.prog Tryf.f10 fun e w' => Below w.heap.size w w' ∧ ∃ b, e = .returned (.tuple #[.pointer none, .slice none 0 0, .iface 79 (.pointer (some ⟨b, 0, none⟩))]))) { tmps := List.toArray ((.slice (some ⟨evB, 0, none⟩) N C : Value) :: v1 :: v2 :: v3 :: v4 :: (.pointer (some ⟨b5, 0, none⟩) : Value) :: (.slice (some ⟨gF, 0, none⟩) N N : Value) :: (.slice q n cp : Value) :: v8 :: v9 :: v10 :: v11 :: v12 :: v13 :: v14 :: v15 :: v16 :: v17 :: v18 :: v19 :: v20 :: v21 :: v22 :: v23 :: v24 :: v25 :: v26 :: v27 :: v28 :: v29 :: v30 :: v31 :: v32 :: v33 :: v34 :: v35 :: v36 :: v37 :: v38 :: v39 :: v40 :: v41 :: v42 :: v43 :: v44 :: v45 :: v46 :: v47 :: v48 :: v49 :: v50 :: v51 :: v52 :: v53 :: v54 :: v55 :: v56 :: v57 :: v58 :: v59 :: v60 :: v61 :: v62 :: v63 :: v64 :: v65 :: v66 :: v67 :: v68 :: v69 :: v70 :: v71 :: v72 :: v73 :: v74 :: v75 :: v76 :: v77 :: v78 :: v79 :: v80 :: v81 :: v82 :: []), defers := [] } W := by
  have e : (ck11a Tryf.f10) = (ck11a Tryf.f10) := rfl
  conv at e => rhs; whnf
  rw [e]
  clear e
  have e : (ck12 Tryf.f10) = (ck12 Tryf.f10) := rfl
  conv at e => rhs; whnf
  rw [e] at q1
  clear e
  have hob : ∀ b, Value.ownBlock (.slice q n cp) = some b → B ≤ b ∧ ∃ c, W.heap[b]? = some (.cells c 3 (0, 0)) := fun b hb => own_tag hx hb
  have no : ∀ {b : Nat} {o : Obj}, W.heap[b]? = some o → (∀ c, o ≠ .cells c 3 (0, 0)) → some b ≠ Value.ownBlock (.slice q n cp) := fun {b o} h1 h2 e => by
    obtain ⟨_, c, h3⟩ := hob b e.symm
    rw [h1] at h3
    exact h2 c (Option.some.inj h3)
  have low : ∀ {b : Nat}, b < B → some b ≠ Value.ownBlock (.slice q n cp) := fun {b} h1 e => by have := (hob b e.symm).1; omega
  have H18 : Hid (Calls Tryf.prog 18 #[.slice q n cp, .func (.func 19) #[] #[.pointer (some ⟨b5, 0, none⟩)]] W fun e w' => e = .returned (.tuple #[]) ∧ w'.cell? ⟨b5, 0, none⟩ = some (.pointer (some ⟨D.A.x, 0, none⟩)) ∧ w'.cell? ⟨D.A.x, 1, none⟩ = some (.map (some D.A.n)) ∧ (Builtin.len_ #[68] 3 #[.map (some D.A.n)]).run Tryf.prog w' = .ok (.int .i64 D.H) w' ∧
      Hid (Below B W w' ∧ w'.heap[b5]? = some (.cells #[.pointer (some ⟨D.A.x, 0, none⟩)] 44 (0, 0)) ∧ Row w' gF N 9 (fun k => .string (fs k)) ∧ ∃ ys : List (NI N), ys.length = n ∧ (∀ x ∈ ys, ¬ Bad D x.1) ∧ w'.ownsRow B 3 1 (.slice q n cp) ys.length (ys.map encI))) := by
    have lt := hI.lt
    refine (sort18_any D.A.x b5 D.A.wt N B D.W (.slice q n cp) xs W hx (by omega) (cell_blk h5 0) (cell_blk hI.box 5) hI.wt (no h5 (fun c e => by cases e)) (low (lt _ (by simp [Adr.list]))) (low (lt _ (by simp [Adr.list])))).mono ?_
    rintro e w' ⟨rfl, hfr, ys, hp, hys⟩
    have bl : Below B W w' := ⟨hfr.os, hfr.tape, hfr.output, hfr.size, fun k hk => hfr.blk k (by omega) (low hk)⟩
    have I' := hI.below bl
    have k5 := (hfr.blk b5 (blk_lt h5) (no h5 (fun c e => by cases e))).trans h5
    exact ⟨rfl, cell_blk k5 0, cell_blk I'.box 1, I'.num.len Tryf.underlying68 3, bl, k5, hfs.same (hfr.blk gF hfs.lt (no hfs (fun c e => by cases e))), ys, hp.length_eq.trans hxn, fun x hx => hxb x (hp.subset hx), hys⟩
  have H21 : Hid (∀ w1 : World, Calls Tryf.prog 21 #[.int .i64 (D.H : Int)] w1 fun e w' => Hid (Below w1.heap.size w1 w') ∧ ∃ cB gK ga gv, e = .returned (.pointer (some ⟨cB, 0, none⟩)) ∧ Hid (Cc w1.heap.size D.H cB gK ga gv 0 (.slice none 0 0) w')) := fun w1 => newcc_any D.H w1 (by have := hI.nH; omega)
  have HI : Hid (Idx B evB N C ev D W ∧ F.answers W.tape ∧ Below w.heap.size w W) := ⟨hI, hF, hb⟩
  have HX : Hid (Bad D a0 ∧ ∀ k, k < N → Bad D k → NEs (fs k)) := ⟨hab, hbad⟩
  have hN := hI.nN
  have t5 : W.cell? ⟨b5, 0, none⟩ = some (.pointer (some ⟨D.A.x, 0, none⟩)) := cell_blk h5 0
  clear hI hF hb h5 hfs hx hxb hab hbad hob no low
  go_wp2_with (first | (go_at_call 18; refine H18.out.mono ?_; rintro e W1 ⟨rfl, u5, ux, ul, HW1⟩) | (go_at_call 21; refine (H21.out _).mono ?_; rintro e W2 ⟨HB2, cB, gK, ga, gv, rfl, HC2⟩))
  clear ul ux u5 t5 H18 H21
  obtain ⟨ys, hyn, hyb, hys⟩ := HW1.out.2.2.2
  have z1 : W1.heap.size ≤ W2.heap.size := HB2.out.size
  have gFl : gF < W1.heap.size := HW1.out.2.2.1.lt
  have b5l : b5 < W1.heap.size := blk_lt HW1.out.2.1
  have hBW1 : B ≤ W1.heap.size := Nat.le_trans hB HW1.out.1.size
  have b5g : b5 ≠ gF := fun e => by
    have h1 := HW1.out.2.1
    rw [e] at h1
    have h2 := HW1.out.2.2.1
    unfold Row at h2
    rw [h1] at h2
    exact tagne h2 (by decide)
  have HB : Hid (∀ W' : World, Fx gF W1.heap.size W2 W' → Idx B evB N C ev D W' ∧ F.answers W'.tape ∧ Below w.heap.size w W' ∧ W'.cell? ⟨b5, 0, none⟩ = some (.pointer (some ⟨D.A.x, 0, none⟩)) ∧ W'.ownsRow B 3 1 (.slice q n cp) ys.length (ys.map encI)) := fun W' h => by
    have b2 : Below B W W' := HW1.out.1.trans ((HB2.out.mono hBW1).trans (h.to hgF hBW1))
    refine ⟨HI.out.1.below b2, by rw [b2.tape]; exact HI.out.2.1, HI.out.2.2.trans (b2.mono hwB), cell_blk ((h.blk b5 b5l b5g).trans ((HB2.out.block b5 b5l).trans HW1.out.2.1)) 0, own_keep hys fun b c hb hc ho => ?_⟩
    refine (h.blk b (blk_lt hc) (fun e => ?_)).trans ((HB2.out.block b (blk_lt hc)).trans hc)
    have h2 := HW1.out.2.2.1
    unfold Row at h2
    rw [e, h2] at hc
    exact tagne hc (by decide)
  have HR0 : Hid (Row W2 gF N 9 (fun k => .string (fs k)) ∧ CcS W1.heap.size D.H N cB gK ga gv 0 (.slice none 0 0) W2) := ⟨HW1.out.2.2.1.below HB2.out gFl, HC2.out, [], by simp, rfl, .inl ⟨rfl, rfl⟩⟩
  have HY : Hid ((∀ x ∈ ys, ¬ Bad D x.1)) := hyb
  clear HW1 HB2 HC2 HI hys hyb
  obtain ⟨B0, hB0⟩ : ∃ B0, W1.heap.size = B0 := ⟨_, rfl⟩
  rw [hB0] at z1 gFl b5l hBW1 HB HR0
  clear hB0
  go_loopg [51] n (fun k s51 wr => ∃ (p : Nat), s51 = .int .i64 (p : Int) ∧ p ≤ n ∧ n - p ≤ k ∧ Hid (∃ (fs' : Nat → ByteArray) (nm : Value), Fx gF B0 W2 wr ∧ Row wr gF N 9 (fun k => .string (fs' k)) ∧ (∀ k, k < N → Bad D k → NEs (fs' k)) ∧ CcS B0 D.H N cB gK ga gv p nm wr))
  case atStart => exact ⟨0, rfl, by omega, by omega, fs, _, Fx.refl _ _ _, HR0.out.1, HX.out.2, HR0.out.2⟩
  case round =>
    obtain ⟨p, rfl, g1, g2, hR⟩ := hrel
    obtain ⟨fs', nm, r1, r2, r3, r4⟩ := hR.out
    obtain ⟨I1, A1, b1, k5, ko⟩ := HB.out _ r1
    by_cases hlt : p < n
    · obtain ⟨g, rfl⟩ : ∃ g, q = some ⟨g, 0, none⟩ := by
        rcases ko.2 with ⟨h, h2⟩ | ⟨g, cap, cur, h, _⟩
        · omega
        · injection h with h; exact ⟨g, h⟩
      obtain ⟨x, hx⟩ : ∃ x, ys[p]? = some x := ⟨ys[p]'(by omega), List.getElem?_eq_getElem (by omega)⟩
      have hxm := HY.out x (List.mem_of_getElem? hx)
      obtain ⟨j, hj⟩ := x
      replace hxm : ¬ Bad D j := hxm
      have c0 : wr.cell? ⟨g, p, none⟩ = some (.int .i64 (j : Nat)) := by
        rw [own_cell ko p (by omega), List.getElem?_map, hx]; rfl
      have H22 : Hid (Calls Tryf.prog 22 #[.pointer (some ⟨cB, 0, none⟩), .pointer (some ⟨D.A.x, 0, none⟩), .int .i64 (j : Int), .slice (some ⟨gF, 0, none⟩) N N] wr fun e w' => ∃ s, e = .returned (.string s) ∧ w'.cell? ⟨gF, j, none⟩ = some (.string (fs' j)) ∧ w'.frozen? ⟨gF, j, none⟩ = false ∧ Hid (∃ (fs'' : Nat → ByteArray) (nm' : Value), Fx gF B0 W2 (w'.setCell ⟨gF, j, none⟩ (.string s)) ∧ Row (w'.setCell ⟨gF, j, none⟩ (.string s)) gF N 9 (fun k => .string (fs'' k)) ∧ (∀ k, k < N → Bad D k → NEs (fs'' k)) ∧ CcS B0 D.H N cB gK ga gv (p + 1) nm' (w'.setCell ⟨gF, j, none⟩ (.string s)))) := by
        refine (fault_any F B B0 evB N C cB gK ga gv p j gF fs' nm ev D wr A1 hj I1 hBW1 (Nat.le_trans z1 r1.size) r4 (by omega) (fun k hk => r2.cell k hk) gFl).mono ?_
        rintro e w' ⟨s, rfl, hh⟩
        obtain ⟨m1, nm', m2⟩ := hh.out
        have r2' : Row w' gF N 9 (fun k => .string (fs' k)) := r2.below m1 gFl
        refine ⟨s, rfl, r2'.cell j hj, r2'.free j, fun k => if k = j then s else fs' k, nm', (r1.below m1 (Nat.le_refl _)).set _ _, ?_, fun k hk hkb => ?_, m2.blk fun b hb => Below.heap_setCell w' _ _ b (by simp only; omega)⟩
        · have h := r2'.set j (.string s)
          have e : upd (fun k => Value.string (fs' k)) j (.string s) = (fun k => Value.string (if k = j then s else fs' k)) := by
            funext k
            unfold upd
            split <;> rfl
          rw [e] at h
          exact h
        · simp only
          rw [if_neg (fun e : k = j => hxm (e ▸ hkb))]
          exact r3 k hk hkb
      have j2 : (j : Int) < (N : Int) := by omega
      have i3 : (p : Int) < (n : Int) := by omega
      clear hR r1 r2 r3 r4 I1 A1 b1 ko hx hxm
      go_wp2_with (go_at_call 22; refine H22.out.mono ?_; rintro e W3 ⟨s, rfl, y1, y2, HW3⟩)
      go_roundg (n - (p + 1))
      case measure => omega
      case rel => exact ⟨p + 1, by rw [show (p : Int) + 1 = ((p + 1 : Nat) : Int) by omega], by omega, Nat.le_refl _, HW3⟩
    · obtain rfl : p = n := by omega
      have HL : Hid (RdEv B wr evB N ev ∧ Row wr gF N 9 (fun k => .string (fs' k)) ∧ NEs (fs' a0) ∧ Below w.heap.size w wr) := ⟨I1.evs, r2, r3 a0 ha HX.out.1, b1⟩
      clear hR r1 r2 r3 r4 I1 A1 b1 ko k5
      go_upto_region 18 with fail
      exact ck18_any B evB N C gF a0 fs' ev w wr HL.out.2.2.2 HL.out.1 hN (fun k hk => HL.out.2.1.cell k hk) ha HL.out.2.2.1 (by assumption) (by assumption)
end Go.Proofs.Qxb6613595aFmt
