import Derived.Test.Qxb6613595aFmtOrMap
namespace Go.Proofs.Qxb6613595aFmt
open Go.RowKit Go.Maps

/-- The hosts numbered so far, one more asked for. -/
def addH (L : List (List UInt8)) (s : List UInt8) : List (List UInt8) := if s ∈ L then L else L ++ [s]
theorem addH_mem (L : List (List UInt8)) (s : List UInt8) : s ∈ addH L s := by unfold addH; split <;> simp_all
theorem addH_len (L : List (List UInt8)) (s : List UInt8) : L.length ≤ (addH L s).length ∧ (addH L s).length ≤ L.length + 1 := by unfold addH; split <;> simp
theorem addH_idx (L : List (List UInt8)) (s t : List UInt8) (h : t ∈ L) : t ∈ addH L s ∧ ix (addH L s) t = ix L t := by
  unfold addH
  split
  · exact ⟨h, rfl⟩
  · exact ⟨by simp [h], ix_old h _⟩
theorem grownBy_refl (w : World) (r : Option Nat) : w.grownBy w r := ⟨rfl, rfl, rfl, Nat.le_refl _, fun _ _ _ => rfl⟩

set_option maxRecDepth 20000 in
theorem number_any (xB bN : Nat) (L : List (List UInt8)) (s : ByteArray) (w : World) (h1 : w.cell? ⟨xB, 1, none⟩ = some (.map (some bN))) (hM : IMap 9 kvS L L.length bN w) (hs : s.size ≤ 1048576) (hL : L.length < 1048576 * 2) :
    Calls Tryf.prog 32 #[.pointer (some ⟨xB, 0, none⟩), .string s] w fun e w' => e = .returned (.int .i64 (ix (addH L s.data.toList) s.data.toList : Nat)) ∧ IMap 9 kvS (addH L s.data.toList) (addH L s.data.toList).length bN w' ∧ w.grownBy w' (some bN) := by
  obtain ⟨kl, hk⟩ := kvS_key s.data.toList (by have e : s.size = s.data.toList.length := rfl; omega)
  have es := kvS_of s
  generalize s.data.toList = l at hk es ⊢
  by_cases hm : l ∈ L
  · have hr := hM.hit law9 Tryf.underlying68 hk hm
    rw [es] at hr
    have e : addH L l = L := by unfold addH; rw [if_pos hm]
    rw [e]
    have HM : Hid _ := hM
    clear hM
    go_enter Tryf.func32, Tryf.ntmps32
    go_wp2
    go_ret
    exact ⟨rfl, HM.out, grownBy_refl w (some bN)⟩
  · have hr := hM.miss law9 Tryf.underlying68 hk hm
    have hl := hM.len Tryf.underlying68 3
    obtain ⟨w', hu, hM', hg⟩ := hM.put law9 Tryf.underlying68 kvS_inj hk hm hL hL
    rw [es] at hr hu
    have e : addH L l = L ++ [l] := by unfold addH; rw [if_neg hm]
    have e2 : ix (L ++ [l]) l = L.length := ix_new hm
    rw [e, e2]
    have HM : Hid _ := And.intro hM' hg
    clear hM hM' hg e e2
    go_enter Tryf.func32, Tryf.ntmps32
    go_wp2
    go_ret
    exact ⟨rfl, by simpa using HM.out.1, HM.out.2⟩
end Go.Proofs.Qxb6613595aFmt
