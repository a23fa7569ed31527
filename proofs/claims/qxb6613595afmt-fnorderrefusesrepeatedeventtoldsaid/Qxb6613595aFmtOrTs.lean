import Derived.Test.Qxb6613595aFmtOrT2
import Derived.Test.Qxb6613595aFmtOrSrt
namespace Go.Proofs.Qxb6613595aFmt
open Go.RowKit Go.Maps Go.Extern.Stop Go.Stop Go.Extern
attribute [local go_sem ↓] Go.wp_at_zero Go.wp_at_succ
set_option linter.unusedVariables false

theorem a2 (w : World) (o0 o1 : Obj) : Below w.heap.size w ((w.alloc o0).alloc o1).drew ∧ ((w.alloc o0).alloc o1).drew.heap[w.heap.size]? = some o0 ∧ ((w.alloc o0).alloc o1).drew.heap[w.heap.size + 1]? = some o1 := by
  have s1 : (w.alloc o0).heap.size = w.heap.size + 1 := by simp
  refine ⟨(((Below.refl _ w).alloc (Nat.le_refl _) _).alloc (by simp) _).drew, alloc_blk (heap_alloc_new w o0) _, ?_⟩
  rw [← s1]; exact heap_alloc_new _ o1

set_option maxRecDepth 20000 in
set_option maxHeartbeats 16000000 in
theorem test_any (F : Interp) (B evB N C cB gK ga gv r i j : Nat) (vo : Bool) (nm : Value) (ev : Nat → Ev) (D : IxD) (w : World) (hF : F.answers w.tape) (hi : i < N) (hj : j < N) (hI : Idx B evB N C ev D w) (hB : B ≤ w.heap.size) (hgB : B ≤ gv)
    (hc : w.heap[cB]? = some (.cells #[.int .i64 (r : Nat), .slice (some ⟨gK, 0, none⟩) D.H D.H, .slice (some ⟨ga, 0, none⟩) D.H D.H, .slice (some ⟨gv, 0, none⟩) D.H D.H, nm] 104 (0, 0))) (hk : Nums w gK D.H 42 .u64) (ha : Nums w ga D.H 3 .i64) (hv : Nums w gv D.H 3 .i64) (n1 : gK ≠ gv) (n2 : ga ≠ gv) (n3 : cB ≠ gv) :
    Calls Tryf.prog 42 #[.pointer (some ⟨cB, 0, none⟩), .pointer (some ⟨D.A.x, 0, none⟩), .int .i64 (j : Int), .int .i64 (i : Int), .bool vo] w fun e w' => ∃ s, e = .returned (.string s) ∧ Hid (FrA (some gv) w w' ∧ Nums w' gv D.H 3 .i64) := by
  have p0 : w.cell? ⟨D.A.x, 0, none⟩ = some (.slice (some ⟨evB, 0, none⟩) N C) := cell_blk hI.box 0
  obtain ⟨c0, c1, c2, c3, c4, c5⟩ := hI.evs.six j hj
  obtain ⟨e0, e1, e2, e3, e4, e5⟩ := hI.evs.six i hi
  have i1 : (0 : Int) ≤ (i : Int) := by omega
  have i2 : (i : Int) < (N : Int) := by omega
  have j1 : (0 : Int) ≤ (j : Int) := by omega
  have j2 : (j : Int) < (N : Int) := by omega
  have hgw := hv.lt
  have HA : Hid (F.answers w.tape ∧ Idx B evB N C ev D w ∧ Nums w gK D.H 42 .u64 ∧ Nums w ga D.H 3 .i64 ∧ Nums w gv D.H 3 .i64 ∧ w.heap[cB]? = some (.cells #[.int .i64 (r : Nat), .slice (some ⟨gK, 0, none⟩) D.H D.H, .slice (some ⟨ga, 0, none⟩) D.H D.H, .slice (some ⟨gv, 0, none⟩) D.H D.H, nm] 104 (0, 0))) := ⟨hF, hI, hk, ha, hv, hc⟩
  clear hF hI hk ha hv hc
  go_enter Tryf.func42, Tryf.ntmps42
  go_wp2_with fail
  go_region_held3 (fun w' => w'.cell? ⟨D.A.x, 0, none⟩ = some (.slice (some ⟨evB, 0, none⟩) N C) ∧ w'.cell? ⟨evB, j * 6, none⟩ = some (.string (ev j).host) ∧ w'.cell? ⟨evB, j * 6 + 1, none⟩ = some (.slice (some ⟨(ev j).eb, 0, none⟩) (ev j).ne (ev j).ne) ∧ w'.cell? ⟨evB, j * 6 + 2, none⟩ = some (.string (ev j).text) ∧ w'.cell? ⟨evB, j * 6 + 3, none⟩ = some (.int .i64 (ev j).line) ∧ w'.cell? ⟨evB, j * 6 + 4, none⟩ = some (.string (ev j).file) ∧ w'.cell? ⟨evB, j * 6 + 5, none⟩ = some (.string (ev j).exec) ∧ w'.cell? ⟨evB, i * 6, none⟩ = some (.string (ev i).host) ∧ w'.cell? ⟨evB, i * 6 + 1, none⟩ = some (.slice (some ⟨(ev i).eb, 0, none⟩) (ev i).ne (ev i).ne) ∧ w'.cell? ⟨evB, i * 6 + 2, none⟩ = some (.string (ev i).text) ∧ w'.cell? ⟨evB, i * 6 + 3, none⟩ = some (.int .i64 (ev i).line) ∧ w'.cell? ⟨evB, i * 6 + 4, none⟩ = some (.string (ev i).file) ∧ w'.cell? ⟨evB, i * 6 + 5, none⟩ = some (.string (ev i).exec)) (first | exact ⟨p0, c0, c1, c2, c3, c4, c5, e0, e1, e2, e3, e4, e5⟩ | exact ⟨ca p0 _, ca c0 _, ca c1 _, ca c2 _, ca c3 _, ca c4 _, ca c5 _, ca e0 _, ca e1 _, ca e2 _, ca e3 _, ca e4 _, ca e5 _⟩ | exact ⟨ca (ca p0 _) _, ca (ca c0 _) _, ca (ca c1 _) _, ca (ca c2 _) _, ca (ca c3 _) _, ca (ca c4 _) _, ca (ca c5 _) _, ca (ca e0 _) _, ca (ca e1 _) _, ca (ca e2 _) _, ca (ca e3 _) _, ca (ca e4 _) _, ca (ca e5 _) _⟩ | go_keep) (fail)
  all_goals
    clear p0 c0 c1 c2 c3 c4 c5 e0 e1 e2 e3 e4 e5
    go_upto_region 2 with fail
    first
    | exact tst2_any F B evB N C _ _ cB gK ga gv r i j vo nm ev D w _ HA.out.1 hi hj (HA.out.2.1.below ((a2 w _ _).1.mono hB)) hB (FrA.ofBelow (a2 w _ _).1) hgB hgw (a2 w _ _).2.1 (a2 w _ _).2.2 (by omega) (by omega) (((a2 w _ _).1.block cB (blk_lt HA.out.2.2.2.2.2)).trans HA.out.2.2.2.2.2) (HA.out.2.2.1.same ((a2 w _ _).1.block gK HA.out.2.2.1.lt)) (HA.out.2.2.2.1.same ((a2 w _ _).1.block ga HA.out.2.2.2.1.lt)) (HA.out.2.2.2.2.1.same ((a2 w _ _).1.block gv hgw)) n1 n2 n3 (by assumption) (by assumption)
    | exact tst2_any F B evB N C _ _ cB gK ga gv r i j vo nm ev D w _ HA.out.1 hi hj (HA.out.2.1.below ((a2 w _ _).1.mono hB)) hB (FrA.ofBelow (a2 w _ _).1) hgB hgw (a2 w _ _).2.2 (a2 w _ _).2.1 (by omega) (by omega) (((a2 w _ _).1.block cB (blk_lt HA.out.2.2.2.2.2)).trans HA.out.2.2.2.2.2) (HA.out.2.2.1.same ((a2 w _ _).1.block gK HA.out.2.2.1.lt)) (HA.out.2.2.2.1.same ((a2 w _ _).1.block ga HA.out.2.2.2.1.lt)) (HA.out.2.2.2.2.1.same ((a2 w _ _).1.block gv hgw)) n1 n2 n3 (by assumption) (by assumption)
end Go.Proofs.Qxb6613595aFmt
