import Derived.Test.Qxb6608761aEmCmp
import Derived.Shelf.Bin.BEUint64
import Derived.Shelf.Lay
import Derived.Ground.MnProg
import Derived.Lib.EndianMore
import Derived.Lib.EndianBits
namespace Go.Proofs.Qxb6608761a
open Go.RowKit

def entV (s e pd h : Nat) : Value := .agg #[.int .i64 (s : Int), .int .i64 (e : Int), .int .i64 (pd : Int), .int .u64 (h : Int)]

theorem below_box (w : World) (o : Obj) : Below w.heap.size w (w.alloc o) := (Below.refl _ _).alloc (Nat.le_refl _) _
theorem below_drewN {B : Nat} {w w' : World} (h : Below B w w') (j : Nat) : Below B w (w'.drewN j) := ⟨h.os, h.tape, h.output, h.size, h.block⟩

/-- blocks laid, orders drawn, nothing turned -/
structure Gr (w w' : World) : Prop where
  below : Below w.heap.size w w'
  drawn : w.drawn ≤ w'.drawn
theorem Gr.trans {a b c : World} (h : Gr a b) (k : Gr b c) : Gr a c := ⟨h.below.trans (k.below.mono h.below.size), Nat.le_trans h.drawn k.drawn⟩
theorem Gr.drewN {a b : World} (h : Gr a b) (j : Nat) : Gr a (b.drewN j) := ⟨⟨h.below.os, h.below.tape, h.below.output, h.below.size, h.below.block⟩, Nat.le_trans h.drawn (Nat.le_add_right _ _)⟩
theorem Gr.alloc {a b : World} (h : Gr a b) (o : Obj) : Gr a (b.alloc o) := ⟨h.below.alloc h.below.size _, h.drawn⟩
theorem Gr.refl (a : World) : Gr a a := ⟨Below.refl _ _, Nat.le_refl _⟩

set_option maxHeartbeats 800000 in
theorem holds_any (oB np cp : Nat) (pv : Option Addr) (s e pd h : Nat) (w : World) (hpd : np ≤ pd) (hc : w.cell? ⟨oB, 1, none⟩ = some (.slice pv np cp)) :
    Calls Try.prog 44 #[.pointer (some ⟨oB, 0, none⟩), entV s e pd h] w fun r w' => r = .returned (.bool false) ∧ Gr w w' := by
  have hb : oB < w.heap.size := World.block_lt_of_cell? _ _ hc
  have HB : Hid (∀ o, Gr w (w.alloc o)) := fun o => (Gr.refl w).alloc o
  unfold entV
  have g1 : decide ((pd : Int) < (np : Int)) = false := by simp; omega
  have g2 : ¬ (pd : Int) < (np : Int) := by omega
  have g3 : ¬ pd < np := by omega
  go_enter Try.func44, Try.ntmps44
  go_wp2
  go_quiet (fail)
  go_wp2
  go_ret
  exact ⟨rfl, (HB.out _).drewN _⟩

/-! ### heads -/
open Go.Shelf in
shelf_lay LaysBin.n42 Mn 42 at Try as Try.lays42

theorem beFrom_head : ∀ (l : List Nat) (a : Nat), (∀ x ∈ l, x < 256) → Lib.beFrom a (u8s l) = a * 256 ^ l.length + headK l.length l
  | [], a, _ => by simp [u8s, Lib.beFrom, headK]
  | x :: l, a, h => by
    have hx := h x (by simp)
    have ih := beFrom_head l (a * 256 + x) (fun z hz => h z (by simp [hz]))
    have e : (UInt8.ofNat x).toNat = x := by simp [UInt8.toNat_ofNat', Nat.mod_eq_of_lt hx]
    have e2 : Lib.beFrom a (u8s (x :: l)) = Lib.beFrom (a * 256 + (UInt8.ofNat x).toNat) (u8s l) := rfl
    rw [e2, e, ih, List.length_cons, headK, Nat.pow_succ, Nat.add_mul, Nat.mul_comm (256 ^ l.length) 256, Nat.mul_assoc, Nat.add_assoc]
theorem headK_append : ∀ (k : Nat) (a b : List Nat), k ≤ a.length → headK k (a ++ b) = headK k a
  | 0, _, _, _ => by simp [headK]
  | _ + 1, [], _, h => by simp at h
  | k + 1, x :: a, b, h => by
    simp only [List.cons_append, headK]
    rw [headK_append k a b (by simpa using h)]
theorem headK_snoc : ∀ (k : Nat) (a : List Nat) (c : Nat), a.length ≤ k → headK (k + 1) (a ++ [c]) = headK (k + 1) a + c * 256 ^ (k - a.length)
  | 0, [], c, _ => by simp [headK]
  | 0, _ :: _, _, h => by simp at h
  | k + 1, [], c, _ => by simp [headK]
  | k + 1, x :: a, c, h => by
    have h2 : a.length ≤ k := by simpa using h
    have ih := headK_snoc k a c h2
    show x * 256 ^ (k + 1) + headK (k + 1) (a ++ [c]) = x * 256 ^ (k + 1) + headK (k + 1) a + c * 256 ^ (k + 1 - (a.length + 1))
    rw [ih, show k + 1 - (a.length + 1) = k - a.length by omega, Nat.add_assoc]
theorem headK_mul : ∀ (k : Nat) (a : List Nat), a.length ≤ k → ∃ q, headK k a = 256 ^ (k - a.length) * q
  | 0, _, _ => ⟨0, by simp [headK]⟩
  | k + 1, [], _ => ⟨0, by simp [headK]⟩
  | k + 1, x :: a, h => by
    obtain ⟨q, hq⟩ := headK_mul k a (by simpa using h)
    refine ⟨x * 256 ^ a.length + q, ?_⟩
    have h2 : a.length ≤ k := by simpa using h
    rw [headK, hq, List.length_cons, show k + 1 - (a.length + 1) = k - a.length by omega, Nat.mul_add, Nat.mul_left_comm, ← Nat.pow_add, show k - a.length + a.length = k by omega]
theorem or_add (k a b : Nat) (hb : b < 256 ^ k) : (256 ^ k * a) ||| b = 256 ^ k * a + b := by
  have e : (256 : Nat) ^ k = 2 ^ (8 * k) := by rw [Nat.pow_mul]
  have h := Nat.two_pow_add_eq_or_of_lt (i := 8 * k) (b := b) (by rw [← e]; exact hb) a
  rw [e]
  exact h.symm

theorem uint64_any (b o n c : Nat) (f : Nat → Nat) (w : World) (hn : 8 ≤ n) (h : ∀ i, i < 8 → w.cell? ⟨b, o + i, none⟩ = some (.int .u8 (f i : Int))) (bf : ∀ i, i < 8 → f i < 256) :
    Calls Try.prog 53 #[.agg #[], .slice (some ⟨b, o, none⟩) n c] w fun r w' => r = .returned (.int .u64 ((headK 8 (seg f 0 n) : Nat) : Int)) ∧ Below w.heap.size w w' := by
  have h' : ∀ i, i < 8 → w.cell? ⟨b, o + i, none⟩ = some (.int .u8 ((UInt8.ofNat (f i)).toNat : Int)) := fun i hi => by
    rw [h i hi, UInt8.toNat_ofNat', Nat.mod_eq_of_lt (bf i hi)]
  have hr := Any.binary_BE_Uint64 Try.lays42 b o n c _ _ _ _ _ _ _ _ w hn (h' 0 (by omega)) (h' 1 (by omega)) (h' 2 (by omega)) (h' 3 (by omega)) (h' 4 (by omega)) (h' 5 (by omega)) (h' 6 (by omega)) (h' 7 (by omega))
  refine hr.mono ?_
  rintro r w' ⟨rfl, hb⟩
  refine ⟨?_, hb⟩
  have e : Lib.beNat (u8s (seg f 0 8)) = headK 8 (seg f 0 8) := by
    have := beFrom_head (seg f 0 8) 0 (fun x hx => by obtain ⟨i, _, hi, rfl⟩ := seg_mem hx; exact bf i hi)
    rw [seg_length] at this
    simpa [Lib.beNat] using this
  have e2 : seg f 0 n = seg f 0 8 ++ seg f 8 n := (seg_append (by omega) hn).symm
  rw [e2, headK_append 8 _ _ (by rw [seg_length]; omega), ← e]
  rfl

theorem head_step (f : Nat → Nat) (k : Nat) (hk : k < 8) (bf : ∀ i, i ≤ k → f i < 256) :
    bits BinOp.or IntKind.u64 ((headK 8 (seg f 0 k) : Nat) : Int) (IntKind.u64.wrap (IntKind.u64.wrap ((f k : Nat) : Int) * 2 ^ (56 - 8 * k))) = ((headK 8 (seg f 0 (k + 1)) : Nat) : Int) := by
  have hc := bf k (Nat.le_refl _)
  have e1 : IntKind.u64.wrap ((f k : Nat) : Int) = (f k : Int) := wraps_u64 _ (by omega) (by omega)
  have e2 : ((f k : Nat) : Int) * 2 ^ (56 - 8 * k) = ((f k * 256 ^ (7 - k) : Nat) : Int) := by
    rw [show (256 : Nat) ^ (7 - k) = 2 ^ (56 - 8 * k) by rw [show 56 - 8 * k = 8 * (7 - k) by omega, Nat.pow_mul]]
    simp
  have h8 : f k * 256 ^ (7 - k) < 256 ^ (8 - k) := by
    rw [show 8 - k = (7 - k) + 1 by omega, Nat.pow_succ, Nat.mul_comm _ 256]
    exact Nat.mul_lt_mul_of_pos_right hc (Nat.pow_pos (by omega))
  have h9 : (256 : Nat) ^ (8 - k) ≤ 2 ^ 64 := by
    rw [show (2 : Nat) ^ 64 = 256 ^ 8 by rfl]
    exact Nat.pow_le_pow_right (by omega) (by omega)
  have h10 : headK 8 (seg f 0 k) < 2 ^ 64 := headK_lt 8 _ (fun x hx => by obtain ⟨i, _, hi, rfl⟩ := seg_mem hx; exact bf i (by omega))
  have e3 : IntKind.u64.wrap ((f k * 256 ^ (7 - k) : Nat) : Int) = ((f k * 256 ^ (7 - k) : Nat) : Int) := wraps_u64 _ (by omega) (by omega)
  rw [e1, e2, e3, (bits_nat .u64 64 (by decide) wraps_u64 _ _ h10 (by omega)).2]
  obtain ⟨q, hq⟩ := headK_mul 8 (seg f 0 k) (by rw [seg_length]; omega)
  rw [seg_length, Nat.sub_zero] at hq
  rw [seg_snoc (Nat.zero_le k), headK_snoc 7 _ _ (by rw [seg_length]; omega), seg_length, Nat.sub_zero, hq, or_add (8 - k) q _ h8]

set_option maxHeartbeats 1600000 in
set_option maxRecDepth 20000 in
theorem head_any (p : Option Addr) (n c : Nat) (f : Nat → Nat) (w : World) (hn : n ≤ 1048576) (hp : Rd w p n f) (hblk : ∀ x, p = some x → ∃ b o, x = ⟨b, o, none⟩) (bf : ∀ i, i < n → f i < 256) :
    Calls Try.prog 45 #[.slice p n c] w fun r w' => r = .returned (.int .u64 ((headK 8 (seg f 0 n) : Nat) : Int)) ∧ Below w.heap.size w w' := by
  by_cases h8 : 8 ≤ n
  · obtain ⟨x, rfl, _⟩ := hp 0 (by omega)
    obtain ⟨b, o, rfl⟩ := hblk x rfl
    have hr := uint64_any b o n c f w h8 (fun i hi => by
      obtain ⟨y, hy, hc⟩ := hp i (by omega)
      cases hy
      rw [← hc]
      rw [Addr.add_lit]) (fun i hi => bf i (by omega))
    clear hp hblk
    go_enter Try.func45, Try.ntmps45
    go_wp2_with fail
    refine hr.mono ?_
    rintro r w' ⟨rfl, hb⟩
    have HB : Hid _ := hb
    clear hb hr
    go_wp2
    go_ret
    exact ⟨rfl, HB.out⟩
  · have h8' : n < 8 := by omega
    go_enter Try.func45, Try.ntmps45
    go_wp2
    go_loopw [14, 3, 4, 5] (fun i h _ _ wr => ∃ k : Nat, k ≤ n ∧ i = .int .i64 k ∧ h = .int .u64 ((headK 8 (seg f 0 k) : Nat) : Int) ∧ wr = w) (fun i _ _ _ _ => n - (intOf i).toNat)
    case atStart => exact ⟨0, Nat.zero_le _, rfl, by rw [seg_nil (Nat.le_refl _)]; rfl, rfl⟩
    case round =>
      obtain ⟨k, hk, rfl, rfl, rfl⟩ := hrel
      by_cases hlt : k < n
      · obtain ⟨x, rfl, hx⟩ := hp k hlt
        have HS : Hid _ := head_step f k (by omega) (fun i hi => bf i (by omega))
        clear hp hblk
        go_wp2
        go_roundw
        case rel => exact ⟨k + 1, hlt, by go_num, by rw [HS.out], trivial⟩
        case measure => simp [intOf]; omega
      · obtain rfl : k = n := by omega
        clear hp hblk
        go_wp2
        go_ret
        exact ⟨rfl, Below.refl _ _⟩
end Go.Proofs.Qxb6608761a
