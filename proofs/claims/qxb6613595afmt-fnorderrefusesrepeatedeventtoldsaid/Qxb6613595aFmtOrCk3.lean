import Derived.Test.Qxb6613595aFmtOrOwn
import Derived.OwnWalk
namespace Go.Proofs.Qxb6613595aFmt
open Go.RowKit Go.Maps Go.Extern.Stop Go.Stop Go.Extern
attribute [local go_sem ↓] Go.wp_at_zero Go.wp_at_succ
set_option linter.unusedVariables false

def ck11 (fF : Func) : Code := sndC (sndC (sndC (sndC (sndC (fF.body.getD .skip)))))
def ck18 (fF : Func) : Code := sndC (sndC (sndC (ck11 fF)))
def ck18a (fF : Func) : Code := fstC (fstC (ck18 fF))
def ck18b (fF : Func) : Code := sndC (fstC (ck18 fF))
def ck18c (fF : Func) : Code := sndC (ck18 fF)

theorem tl_loop (bs : ByteArray) : ∀ (n i : Nat) (r : List UInt8), bs.size - i = n → (ByteArray.toList.loop bs i r).length = r.length + n := by
  intro n
  induction n with
  | zero =>
    intro i r h
    unfold ByteArray.toList.loop
    rw [if_neg (by omega)]
    simp
  | succ n ih =>
    intro i r h
    unfold ByteArray.toList.loop
    rw [if_pos (by omega), ih (i + 1) _ (by omega)]
    simp
    omega
theorem tl_len (s : ByteArray) : s.toList.length = s.size := by
  unfold ByteArray.toList
  rw [tl_loop s s.size 0 [] (by omega)]
  simp
theorem tl_ne (s : ByteArray) (h : NEs s) : s.toList.isEmpty = false := by
  rw [List.isEmpty_eq_false_iff]
  intro e
  apply h
  rw [← tl_len, e]
  rfl
theorem NEs_of (s : ByteArray) (h : ¬ s = ⟨#[]⟩) : NEs s := fun e => h (by
  obtain ⟨d⟩ := s
  have : d.size = 0 := e
  rw [Array.eq_empty_of_size_eq_zero this])

set_option maxRecDepth 20000 in
set_option maxHeartbeats 16000000 in
theorem ck18_any (base evB N C gF a0 : Nat) (fs : Nat → ByteArray) (ev : Nat → Ev) (w W : World) (hb : Below w.heap.size w W) (hE : RdEv base W evB N ev) (hN : N ≤ 4098) (hfs : ∀ k, k < N → W.cell? ⟨gF, k, none⟩ = some (.string (fs k))) (ha : a0 < N) (hne : NEs (fs a0))
    {v1 v2 v3 v4 v5 v7 v8 v9 v10 v11 v12 v13 v14 v15 v16 v17 v18 v19 v20 v21 v22 v23 v24 v25 v26 v27 v28 v29 v30 v31 v32 v33 v34 v35 v36 v37 v38 v39 v40 v41 v42 v43 v44 v45 v46 v47 v48 v49 v50 v51 v52 v53 v54 v55 v56 v57 v58 v59 v60 v61 v62 v63 v64 v65 v66 v67 v68 v69 v70 v71 v72 v73 v74 v75 v76 v77 v78 v79 v80 v81 v82 : Value} {K1 K2 : Act → World → Prop}
    (q1 : ∀ a w', Code.wp Tryf.prog (ck18b Tryf.f10) (Exit.then K2 (bodyPost Tryf.prog Tryf.f10 fun e w' => Below w.heap.size w w' ∧ ∃ b, e = .returned (.tuple #[.pointer none, .slice none 0 0, .iface 79 (.pointer (some ⟨b, 0, none⟩))]))) a w' → K1 a w') (q2 : ∀ a w', Code.wp Tryf.prog (ck18c Tryf.f10) (bodyPost Tryf.prog Tryf.f10 fun e w' => Below w.heap.size w w' ∧ ∃ b, e = .returned (.tuple #[.pointer none, .slice none 0 0, .iface 79 (.pointer (some ⟨b, 0, none⟩))])) a w' → K2 a w') :
    Code.wp Tryf.prog (ck18a Tryf.f10) (Exit.then K1 (Exit.then K2 (bodyPost Tryf.prog Tryf.f10 fun e w' => Below w.heap.size w w' ∧ ∃ b, e = .returned (.tuple #[.pointer none, .slice none 0 0, .iface 79 (.pointer (some ⟨b, 0, none⟩))])))) { tmps := List.toArray ((.slice (some ⟨evB, 0, none⟩) N C : Value) :: v1 :: v2 :: v3 :: v4 :: v5 :: (.slice (some ⟨gF, 0, none⟩) N N : Value) :: v7 :: v8 :: v9 :: v10 :: v11 :: v12 :: v13 :: v14 :: v15 :: v16 :: v17 :: v18 :: v19 :: v20 :: v21 :: v22 :: v23 :: v24 :: v25 :: v26 :: v27 :: v28 :: v29 :: v30 :: v31 :: v32 :: v33 :: v34 :: v35 :: v36 :: v37 :: v38 :: v39 :: v40 :: v41 :: v42 :: v43 :: v44 :: v45 :: v46 :: v47 :: v48 :: v49 :: v50 :: v51 :: v52 :: v53 :: v54 :: v55 :: v56 :: v57 :: v58 :: v59 :: v60 :: v61 :: v62 :: v63 :: v64 :: v65 :: v66 :: v67 :: v68 :: v69 :: v70 :: v71 :: v72 :: v73 :: v74 :: v75 :: v76 :: v77 :: v78 :: v79 :: v80 :: v81 :: v82 :: []), defers := [] } W := by
  have e : (ck18a Tryf.f10) = (ck18a Tryf.f10) := rfl
  conv at e => rhs; whnf
  rw [e]
  clear e
  have e : (ck18b Tryf.f10) = (ck18b Tryf.f10) := rfl
  conv at e => rhs; whnf
  rw [e] at q1
  clear e
  have e : (ck18c Tryf.f10) = (ck18c Tryf.f10) := rfl
  conv at e => rhs; whnf
  rw [e] at q2
  clear e
  have HB : Hid (Below w.heap.size w W) := hb
  have HE : Hid (RdEv base W evB N ev) := hE
  have HS : Hid (∀ k, k < N → W.cell? ⟨gF, k, none⟩ = some (.string (fs k))) := hfs
  have HN : Hid (NEs (fs a0)) := hne
  clear hb hE hfs hne
  go_wp2_with fail
  go_loopg [66] N (fun k s66 wr => ∃ p : Nat, s66 = .int .i64 (p : Int) ∧ p ≤ a0 ∧ N - p ≤ k ∧ Hid (wr = W))
  case atStart => exact ⟨0, rfl, by omega, by omega, rfl⟩
  case round =>
    obtain ⟨p, rfl, g1, g2, hR⟩ := hrel
    have hRR := hR.out
    subst hRR
    clear hR
    have hp : p < N := by omega
    have i1 : (p : Int) < (N : Int) := by omega
    have hc := HS.out p hp
    by_cases he : fs p = ⟨#[]⟩
    · have hpa : p ≠ a0 := fun e => HN.out (by rw [← e, he]; rfl)
      rw [he] at hc
      clear he
      go_wp2_with fail
      go_roundg (N - (p + 1))
      case measure => omega
      case rel => exact ⟨p + 1, by rw [show (p : Int) + 1 = ((p + 1 : Nat) : Int) by omega], by omega, Nat.le_refl _, rfl⟩
    · have he2 := tl_ne _ (NEs_of _ he)
      generalize fs p = s at hc he he2
      clear he
      obtain ⟨c0, c1, c2, c3, c4, c5⟩ := HE.out.six p hp
      have H23 : Hid (∀ h p n c tx l fl ex r, Calls Tryf.prog 23 #[.agg #[.string h, .slice p n c, .string tx, .int .i64 l, .string fl, .string ex], .string r] wr fun e w' => (∃ b, e = .returned (.pointer (some ⟨b, 0, none⟩))) ∧ Hid (Below w.heap.size w w')) := fun h p n c tx l fl ex r => by
        refine (refuse_any h p n c tx l fl ex r wr).mono ?_
        rintro e w' ⟨h1, h2⟩
        exact ⟨h1, HB.out.trans (h2.mono HB.out.size)⟩
      go_wp2_with (go_at_call 23; refine (H23.out _ _ _ _ _ _ _ _ _).mono ?_; rintro e w' ⟨⟨b, rfl⟩, hb2⟩)
      go_ret3
      exact ⟨hb2.out, b, rfl⟩
end Go.Proofs.Qxb6613595aFmt
