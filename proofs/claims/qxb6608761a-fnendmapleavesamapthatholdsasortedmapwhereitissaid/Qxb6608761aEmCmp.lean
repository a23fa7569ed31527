import Derived.Test.Qxb6608761aEmSpan
import Derived.Lib.BytesEntry
import Derived.Laws.Externs
namespace Go.Proofs.Qxb6608761a
open Go.RowKit

/-! ### bytes.Compare -/
def u8s (l : List Nat) : List UInt8 := l.map fun a => UInt8.ofNat a
theorem compare_u8s : ∀ (a b : List Nat), (∀ x ∈ a, x < 256) → (∀ x ∈ b, x < 256) → Lib.compareBytes (u8s a) (u8s b) = cmpN a b
  | [], [], _, _ => rfl
  | [], _ :: _, _, _ => rfl
  | _ :: _, [], _, _ => rfl
  | x :: a, y :: b, ha, hb => by
    have ih := compare_u8s a b (fun z hz => ha z (by simp [hz])) (fun z hz => hb z (by simp [hz]))
    have hx := ha x (by simp)
    have hy := hb y (by simp)
    have e1 : UInt8.ofNat x < UInt8.ofNat y ↔ x < y := by
      rw [UInt8.lt_iff_toNat_lt]
      simp [UInt8.toNat_ofNat', Nat.mod_eq_of_lt hx, Nat.mod_eq_of_lt hy]
    have e2 : UInt8.ofNat y < UInt8.ofNat x ↔ y < x := by
      rw [UInt8.lt_iff_toNat_lt]
      simp [UInt8.toNat_ofNat', Nat.mod_eq_of_lt hx, Nat.mod_eq_of_lt hy]
    simp only [u8s, List.map_cons, Lib.compareBytes, cmpN, e1, e2]
    simp only [u8s] at ih
    rw [ih]

theorem run_bytesOf (w : World) (p : Option Addr) (n c : Nat) (f : Nat → Nat) (h : Rd w p n f) (hnil : p = none → n = 0) :
    (Extern.Bytes.bytesOf (.slice p n c)).run Try.prog w = .ok ⟨(u8s (seg f 0 n)).toArray⟩ w := by
  cases p with
  | none =>
    obtain rfl := hnil rfl
    simp only [Extern.Bytes.bytesOf, Sem.run_pure, seg_nil (Nat.le_refl 0), u8s, List.map_nil]
    rfl
  | some x =>
    have hl := Lib.run_loadBytesX (P := Try.prog) w ((seg f 0 n).map Int.ofNat) x .empty (fun j y hj => by
      have hjn : j < n := by
        have := (List.getElem?_eq_some_iff.1 hj).1
        simpa [seg_length] using this
      rw [List.getElem?_map, seg_get j (by omega)] at hj
      obtain ⟨z, hz, hc⟩ := h j hjn
      cases hz
      rw [hc]
      simp at hj
      rw [hj])
    rw [List.length_map, seg_length, Nat.sub_zero] at hl
    simp only [Extern.Bytes.bytesOf]
    rw [hl]
    congr 1
    apply ByteArray.ext
    show (#[] : Array UInt8) ++ _ = _
    simp [Lib.bytesOf, u8s]

theorem run_compareSlices (w : World) (p q : Option Addr) (n m c d : Nat) (f g : Nat → Nat) (hp : Rd w p n f) (hq : Rd w q m g) (np : p = none → n = 0) (nq : q = none → m = 0)
    (bf : ∀ i, i < n → f i < 256) (bg : ∀ i, i < m → g i < 256) :
    (Extern.BytealgCompare.compare #[.slice p n c, .slice q m d]).run Try.prog w = .ok (.int .i64 (cmpN (seg f 0 n) (seg g 0 m))) w := by
  change Sem.run Try.prog (do pure (goInt (Extern.BytealgCompare.cmp (← Extern.Bytes.bytesOf (.slice p n c)) (← Extern.Bytes.bytesOf (.slice q m d))))) w = _
  simp only [Sem.run_bind, run_bytesOf w p n c f hp np, run_bytesOf w q m d g hq nq, Sem.run_pure, Result.andThen]
  rw [Lib.cmp_eq]
  rw [show (ByteArray.mk (u8s (seg f 0 n)).toArray).data.toList = u8s (seg f 0 n) from by simp, show (ByteArray.mk (u8s (seg g 0 m)).toArray).data.toList = u8s (seg g 0 m) from by simp,
    compare_u8s _ _ (fun x hx => by obtain ⟨i, _, hi, rfl⟩ := seg_mem hx; exact bf i hi) (fun x hx => by obtain ⟨i, _, hi, rfl⟩ := seg_mem hx; exact bg i hi)]
  rfl

set_option maxHeartbeats 800000 in
set_option maxRecDepth 20000 in
theorem bytesCompare_any (p q : Option Addr) (n m c d : Nat) (f g : Nat → Nat) (w : World) (hp : Rd w p n f) (hq : Rd w q m g) (np : p = none → n = 0) (nq : q = none → m = 0)
    (bf : ∀ i, i < n → f i < 256) (bg : ∀ i, i < m → g i < 256) :
    Calls Try.prog 51 #[.slice p n c, .slice q m d] w fun e w' => e = .returned (.int .i64 (cmpN (seg f 0 n) (seg g 0 m))) ∧ w' = w := by
  have hr := run_compareSlices w p q n m c d f g hp hq np nq bf bg
  clear hp hq
  go_enter Try.func51, Try.ntmps51
  go_wp2
  rw [run_callFunc_extern Try.func66 (by kernel_rfl) (by kernel_rfl) (by kernel_rfl) (e := Extern.BytealgCompare.compare) (by kernel_rfl), hr]
  simp only [Result.andThen]
  rw [Oper.upon_value]
  go_wp2
  go_ret
  exact ⟨rfl, rfl⟩
end Go.Proofs.Qxb6608761a
