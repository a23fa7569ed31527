import Derived.Test.Qxb6613595aFmtOrSmall
import Derived.Deep.LoopGhost
namespace Go.Proofs.Qxb6613595aFmt
open Go.RowKit

set_option maxRecDepth 20000 in
set_option maxHeartbeats 1600000 in
/-- shown: some string. -/
theorem shown_any (s : ByteArray) (w : World) (hs : s.size < 1073741824) : Calls Tryf.prog 35 #[.string s] w fun e w' => (∃ t, e = .returned (.string t) ∧ t.size ≤ 67) ∧ w' = w := by
  have H := fun b => start_any b w
  by_cases hl : s.size ≤ 64
  · go_enter Tryf.func35, Tryf.ntmps35
    go_wp2
    go_ret
    exact ⟨⟨s, rfl, by omega⟩, rfl⟩
  · have hx : ∀ c : Nat, c ≤ 64 → (s.extract 0 c ++ (⟨#[46, 46, 46]⟩ : ByteArray)).size ≤ 67 := fun c hc => by
      rw [ByteArray.size_append, ByteArray.size_extract]
      have : (⟨#[46, 46, 46]⟩ : ByteArray).size = 3 := rfl
      omega
    have HX : Hid _ := hx
    clear hx
    go_enter Tryf.func35, Tryf.ntmps35
    go_wp2
    go_loopg [3] 64 (fun k s3 wr => ∃ c : Nat, s3 = .int .i64 c ∧ 61 ≤ c ∧ c ≤ 64 ∧ c ≤ k ∧ wr = w)
    case atStart => exact ⟨64, rfl, by omega, by omega, by omega, rfl⟩
    case round =>
      obtain ⟨c, rfl, h1, h2, h3, rfl⟩ := hrel
      by_cases hc : c = 61
      · subst hc
        go_wp2
        go_ret
        exact ⟨⟨_, rfl, HX.out 61 (by omega)⟩, rfl⟩
      · go_wp2_with (go_at_call 58; refine (H _).mono ?_; rintro e w' ⟨⟨x, rfl⟩, rfl⟩)
        · go_roundg (c - 1)
          case rel => exact ⟨c - 1, by rw [show (c : Int) - 1 = ((c - 1 : Nat) : Int) by omega], by omega, by omega, Nat.le_refl _, rfl⟩
          case measure => omega
        · go_ret
          exact ⟨⟨_, rfl, HX.out c (by omega)⟩, rfl⟩

/-- Entries in a row. -/
def RdE (w : World) (b n : Nat) (E : Nat → ByteArray × Nat) : Prop := ∀ i, i < n → w.cell? ⟨b, i * 2, none⟩ = some (.string (E i).1) ∧ w.cell? ⟨b, i * 2 + 1, none⟩ = some (.int .u64 ((E i).2 : Nat))
theorem RdE.below {w w' : World} {b n : Nat} {E : Nat → ByteArray × Nat} (h : RdE w b n E) {B : Nat} (hb : Below B w w') (hB : n = 0 ∨ b < B) : RdE w' b n E := fun i hi => by
  have h0 : b < B := by omega
  exact ⟨by rw [hb.cell (p := ⟨b, i * 2, none⟩) h0]; exact (h i hi).1, by rw [hb.cell (p := ⟨b, i * 2 + 1, none⟩) h0]; exact (h i hi).2⟩

/-- The place that a binary search comes to. -/
def bsr (c : Nat → Int) : Nat → Nat → Nat → Nat
  | 0, lo, _ => lo
  | k + 1, lo, hi => if lo < hi then (if c ((lo + hi) / 2) < 0 then bsr c k ((lo + hi) / 2 + 1) hi else bsr c k lo ((lo + hi) / 2)) else lo
theorem bsr_end (c : Nat → Int) (k lo : Nat) : bsr c k lo lo = lo := by cases k <;> simp [bsr]
theorem bsr_le (c : Nat → Int) : ∀ k lo hi, lo ≤ hi → bsr c k lo hi ≤ hi
  | 0, lo, hi, h => h
  | k + 1, lo, hi, h => by
    simp only [bsr]
    split
    · split
      · exact bsr_le c k _ _ (by omega)
      · exact Nat.le_trans (bsr_le c k _ _ (by omega)) (by omega)
    · exact h
def cmpS (E : Nat → ByteArray × Nat) (t : ByteArray) (i : Nat) : Int := Lib.compareBytes (E i).1.data.toList t.data.toList
def place (E : Nat → ByteArray × Nat) (n : Nat) (t : ByteArray) : Nat := bsr (cmpS E t) n 0 n
def found (E : Nat → ByteArray × Nat) (n : Nat) (t : ByteArray) : Bool := decide (place E n t < n) && decide (cmpS E t (place E n t) = 0)
/-- A vector's entry for a host. -/
def getE (E : Nat → ByteArray × Nat) (n : Nat) (t : ByteArray) : Nat := if found E n t then (E (place E n t)).2 else 0

set_option maxRecDepth 20000 in
set_option maxHeartbeats 1600000 in
theorem search_any (b n cp : Nat) (E : Nat → ByteArray × Nat) (t : ByteArray) (w : World) (hE : RdE w b n E) (hn : n < 1048577) (hb : n = 0 ∨ b < w.heap.size) :
    Calls Tryf.prog 74 #[.slice (some ⟨b, 0, none⟩) n cp, .string t, .func (.func 75) #[] #[]] w fun e w' => e = .returned (.tuple #[.int .i64 (place E n t), .bool (found E n t)]) ∧ Below w.heap.size w w' := by
  have H := find1_any
  have HE : Hid (RdE w b n E) := hE
  clear hE
  obtain ⟨P, hP⟩ : ∃ P, place E n t = P := ⟨_, rfl⟩
  obtain ⟨G, hG⟩ : ∃ G, found E n t = G := ⟨_, rfl⟩
  have HP : Hid (place E n t = P ∧ found E n t = G) := ⟨hP, hG⟩
  rw [hP, hG]
  clear hP hG
  go_enter Tryf.func74, Tryf.ntmps74
  go_wp2
  go_loopg [9, 10] n (fun kx s9 s10 wr => ∃ lo hi k : Nat, s9 = .int .i64 lo ∧ s10 = .int .i64 hi ∧ lo ≤ hi ∧ hi ≤ n ∧ hi - lo ≤ k ∧ k ≤ kx ∧ Hid (Below w.heap.size w wr) ∧ Hid (bsr (cmpS E t) k lo hi = place E n t))
  case atStart => exact ⟨0, n, n, rfl, rfl, by omega, by omega, by omega, by omega, Below.refl _ _, rfl⟩
  case round =>
    obtain ⟨lo, hi, k, rfl, rfl, h1, h2, h3, h4, hB, hS⟩ := hrel
    by_cases hlt : lo < hi
    · obtain ⟨c1, c2⟩ := RdE.below HE.out hB.out hb ((lo + hi) / 2) (by omega)
      obtain ⟨k, rfl⟩ : ∃ k', k = k' + 1 := ⟨k - 1, by omega⟩
      have hS2 : Hid (cmpS E t ((lo + hi) / 2) < 0 → bsr (cmpS E t) k ((lo + hi) / 2 + 1) hi = place E n t) := fun hc => by have := hS.out; simp only [bsr, if_pos hlt, if_pos hc] at this; exact this
      have hS3 : Hid (¬ cmpS E t ((lo + hi) / 2) < 0 → bsr (cmpS E t) k lo ((lo + hi) / 2) = place E n t) := fun hc => by have := hS.out; simp only [bsr, if_pos hlt, if_neg hc] at this; exact this
      have HC : Hid (∀ W, Calls Tryf.prog 75 #[.agg #[.string (E ((lo + hi) / 2)).1, .int .u64 ((E ((lo + hi) / 2)).2 : Nat)], .string t] W fun e w' => e = .returned (.int .i64 (cmpS E t ((lo + hi) / 2))) ∧ Below W.heap.size W w') := fun W => H _ _ t W
      clear hS
      generalize (E ((lo + hi) / 2)).1 = y1 at c1 HC
      generalize (E ((lo + hi) / 2)).2 = y2 at c2 HC
      generalize cmpS E t ((lo + hi) / 2) = cc at HC hS2 hS3
      by_cases hcc : cc < 0
      · go_wp2_with (go_at_call 75; refine (HC.out _).mono ?_; rintro e w' ⟨rfl, hb2⟩)
        go_roundg k
        case measure => omega
        case rel => exact ⟨(lo + hi) / 2 + 1, hi, k, by rw [show ((lo : Int) + (hi : Int)) / 2 + 1 = (((lo + hi) / 2 + 1 : Nat) : Int) by omega], rfl, by omega, h2, by omega, by omega, hB.out.trans (hb2.mono hB.out.size), hS2.out hcc⟩
      · go_wp2_with (go_at_call 75; refine (HC.out _).mono ?_; rintro e w' ⟨rfl, hb2⟩)
        go_roundg k
        case measure => omega
        case rel => exact ⟨lo, (lo + hi) / 2, k, rfl, by rw [show ((lo : Int) + (hi : Int)) / 2 = (((lo + hi) / 2 : Nat) : Int) by omega], by omega, by omega, by omega, by omega, hB.out.trans (hb2.mono hB.out.size), hS3.out hcc⟩
    · obtain rfl : lo = hi := by omega
      have hS2 : Hid (lo = P) := by have := hS.out; rw [bsr_end] at this; exact this.trans HP.out.1
      clear hS
      by_cases hn2 : lo < n
      · obtain ⟨c1, c2⟩ := RdE.below HE.out hB.out hb lo hn2
        have HC : Hid (∀ W, Calls Tryf.prog 75 #[.agg #[.string (E lo).1, .int .u64 ((E lo).2 : Nat)], .string t] W fun e w' => e = .returned (.int .i64 (cmpS E t lo)) ∧ Below W.heap.size W w') := fun W => H _ _ t W
        have hf : Hid (G = decide (cmpS E t lo = 0)) := by
          have h := HP.out.2
          unfold found at h
          rw [HP.out.1, ← hS2.out, decide_eq_true hn2, Bool.true_and] at h
          exact h.symm
        generalize (E lo).1 = y1 at c1 HC
        generalize (E lo).2 = y2 at c2 HC
        generalize cmpS E t lo = cc at HC hf
        go_wp2_with (go_at_call 75; refine (HC.out _).mono ?_; rintro e w' ⟨rfl, hb2⟩)
        go_ret2
        obtain rfl := hS2.out
        obtain rfl := hf.out
        exact ⟨rfl, hB.out.trans (hb2.mono hB.out.size)⟩
      · have hf : Hid (G = false) := by
          have h := HP.out.2
          unfold found at h
          rw [HP.out.1, ← hS2.out, decide_eq_false hn2, Bool.false_and] at h
          exact h.symm
        go_wp2_with fail
        go_ret2
        obtain rfl := hS2.out
        obtain rfl := hf.out
        exact ⟨rfl, hB.out⟩

set_option maxRecDepth 20000 in
theorem find_any (b n cp : Nat) (E : Nat → ByteArray × Nat) (t : ByteArray) (w : World) (hE : RdE w b n E) (hn : n < 1048577) (hb : n = 0 ∨ b < w.heap.size) :
    Calls Tryf.prog 56 #[.agg #[.slice (some ⟨b, 0, none⟩) n cp], .string t] w fun e w' => e = .returned (.tuple #[.int .i64 (place E n t), .bool (found E n t)]) ∧ Below w.heap.size w w' := by
  have HS : Hid (∀ o, Calls Tryf.prog 74 #[.slice (some ⟨b, 0, none⟩) n cp, .string t, .func (.func 75) #[] #[]] (w.alloc o) fun e w' => e = .returned (.tuple #[.int .i64 (place E n t), .bool (found E n t)]) ∧ Below (w.alloc o).heap.size (w.alloc o) w') := fun o =>
    search_any b n cp E t (w.alloc o) (RdE.below hE ((Below.refl _ w).alloc (Nat.le_refl _) o) hb) hn (hb.imp id (fun h => by simp; omega))
  clear hE
  go_enter Tryf.func56, Tryf.ntmps56
  go_wp2_with (go_at_call 74; refine (HS.out _).mono ?_; rintro e w' ⟨rfl, hb2⟩)
  go_ret2
  exact ⟨rfl, ((Below.refl _ w).alloc (Nat.le_refl _) _).trans (hb2.mono (by simp))⟩

set_option maxRecDepth 20000 in
theorem get_any (b n cp : Nat) (E : Nat → ByteArray × Nat) (t : ByteArray) (w : World) (hE : RdE w b n E) (hn : n < 1048577) (hb : n = 0 ∨ b < w.heap.size) :
    Calls Tryf.prog 33 #[.agg #[.slice (some ⟨b, 0, none⟩) n cp], .string t] w fun e w' => e = .returned (.int .u64 (getE E n t : Nat)) ∧ Below w.heap.size w w' := by
  have HS : Hid (∀ o, Calls Tryf.prog 56 #[.agg #[.slice (some ⟨b, 0, none⟩) n cp], .string t] (w.alloc o) fun e w' => e = .returned (.tuple #[.int .i64 (place E n t), .bool (found E n t)]) ∧ Below (w.alloc o).heap.size (w.alloc o) w') := fun o =>
    find_any b n cp E t (w.alloc o) (RdE.below hE ((Below.refl _ w).alloc (Nat.le_refl _) o) hb) hn (hb.imp id (fun h => by simp; omega))
  have HE : Hid (RdE w b n E) := hE
  clear hE
  have hG : Hid (found E n t = true → place E n t < n ∧ getE E n t = (E (place E n t)).2) := fun h => ⟨by unfold found at h; simp at h; exact h.1, by unfold getE; rw [if_pos h]⟩
  have hG2 : Hid (found E n t = false → getE E n t = 0) := fun h => by unfold getE; rw [h]; rfl
  have hcell : Hid (∀ (o : Obj) (w' : World), Below (w.alloc o).heap.size (w.alloc o) w' → ∀ i, i < n → w'.cell? ⟨b, i * 2 + 1, none⟩ = some (.int .u64 ((E i).2 : Nat))) := fun o w' h i hi => by
    have h1 := RdE.below HE.out (((Below.refl _ w).alloc (Nat.le_refl _) o).trans (h.mono (by simp))) hb
    exact (h1 i hi).2
  have hbox : Hid (∀ (w' : World) (v : Value) (t : TypeId), Below (w.alloc (.cells #[v] t)).heap.size (w.alloc (.cells #[v] t)) w' → w'.cell? ⟨w.heap.size, 0, none⟩ = some v) := fun w' v t h => by
    rw [h.cell (p := ⟨w.heap.size, 0, none⟩) (by simp)]; simp [go_sem]
  generalize place E n t = P at HS hG
  generalize found E n t = G at HS hG hG2
  generalize getE E n t = R at hG hG2
  clear HE
  cases G with
  | true =>
    obtain ⟨g1, g2⟩ := hG.out rfl
    go_enter Tryf.func33, Tryf.ntmps33
    go_wp2_with (go_at_call 56; refine (HS.out _).mono ?_; rintro e w' ⟨rfl, hb2⟩; have hc2 := hcell.out _ _ hb2 P g1; have hc3 := hbox.out _ _ _ hb2)
    go_ret
    exact ⟨by rw [g2]; rfl, ((Below.refl _ w).alloc (Nat.le_refl _) _).trans (hb2.mono (by simp))⟩
  | false =>
    have g1 := hG2.out rfl
    go_enter Tryf.func33, Tryf.ntmps33
    go_wp2_with (go_at_call 56; refine (HS.out _).mono ?_; rintro e w' ⟨rfl, hb2⟩)
    go_ret
    exact ⟨by rw [g1]; rfl, ((Below.refl _ w).alloc (Nat.le_refl _) _).trans (hb2.mono (by simp))⟩
end Go.Proofs.Qxb6613595aFmt
