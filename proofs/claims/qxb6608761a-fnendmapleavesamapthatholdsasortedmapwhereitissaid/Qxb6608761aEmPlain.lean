/-
  The plain part of FnEndMapLeavesAMapThatHoldsASortedMapWhereItIs: pieces of rows, the order of byte lists, heads, the merge sort's pass. No Go here.
-/
namespace Go.Proofs.Qxb6608761a

/-! ### pieces of a row -/
def seg {α : Type} (f : Nat → α) (s e : Nat) : List α := (List.range (e - s)).map fun i => f (s + i)
section
variable {α : Type} {f g : Nat → α} {s m e : Nat}
theorem seg_length : (seg f s e).length = e - s := by simp [seg]
theorem seg_nil (h : e ≤ s) : seg f s e = [] := by simp [seg, Nat.sub_eq_zero_of_le h]
theorem seg_get (i : Nat) (h : i < e - s) : (seg f s e)[i]? = some (f (s + i)) := by simp [seg, h]
theorem seg_getElem (i : Nat) (h : i < (seg f s e).length) : (seg f s e)[i] = f (s + i) := by simp [seg]
theorem seg_cons (h : s < e) : seg f s e = f s :: seg f (s + 1) e := by
  apply List.ext_getElem
  · simp [seg_length]; omega
  · intro i h1 h2
    rw [seg_getElem]
    cases i with
    | zero => simp
    | succ i => rw [List.getElem_cons_succ, seg_getElem]; congr 1; omega
theorem seg_append (h1 : s ≤ m) (h2 : m ≤ e) : seg f s m ++ seg f m e = seg f s e := by
  apply List.ext_getElem
  · simp [seg_length]; omega
  · intro i h3 h4
    rw [seg_getElem, List.getElem_append]
    simp only [seg_length]
    split
    · rw [seg_getElem]
    · rw [seg_getElem]; congr 1; omega
theorem seg_snoc (h : s ≤ e) : seg f s (e + 1) = seg f s e ++ [f e] := by
  rw [← seg_append h (Nat.le_succ e), seg_cons (Nat.lt_succ_self e), seg_nil (Nat.le_refl _)]
theorem seg_congr (h : ∀ i, s ≤ i → i < e → f i = g i) : seg f s e = seg g s e := by
  unfold seg
  refine List.map_congr_left fun i hi => h _ (by omega) ?_
  have := List.mem_range.1 hi
  omega
theorem seg_mem {x : α} (h : x ∈ seg f s e) : ∃ i, s ≤ i ∧ i < e ∧ x = f i := by
  simp only [seg, List.mem_map, List.mem_range] at h
  obtain ⟨i, hi, rfl⟩ := h
  exact ⟨s + i, by omega, by omega, rfl⟩
theorem mem_seg (i : Nat) (h1 : s ≤ i) (h2 : i < e) : f i ∈ seg f s e := by
  simp only [seg, List.mem_map, List.mem_range]
  exact ⟨i - s, by omega, by congr 1; omega⟩
theorem seg_map {β : Type} (k : α → β) : (seg f s e).map k = seg (fun i => k (f i)) s e := by simp [seg, Function.comp_def]
/-- the row f with v at place k -/
def put (f : Nat → α) (k : Nat) (v : α) : Nat → α := fun i => if i = k then v else f i
theorem put_at (k : Nat) (v : α) : put f k v k = v := by simp [put]
theorem put_ne (k : Nat) (v : α) (i : Nat) (h : i ≠ k) : put f k v i = f i := by simp [put, h]
theorem seg_put_out (k : Nat) (v : α) (h : k < s ∨ e ≤ k) : seg (put f k v) s e = seg f s e := seg_congr fun i h1 h2 => put_ne _ _ _ (by omega)
theorem seg_put_snoc (k : Nat) (v : α) (h : s ≤ k) : seg (put f k v) s (k + 1) = seg f s k ++ [v] := by
  rw [seg_snoc h, put_at, seg_put_out k v (.inr (Nat.le_refl _))]
end

/-! ### the order of byte lists -/
def cmpN : List Nat → List Nat → Int
  | [], [] => 0
  | [], _ :: _ => -1
  | _ :: _, [] => 1
  | a :: as, b :: bs => if a < b then -1 else if b < a then 1 else cmpN as bs

theorem cmpN_vals : ∀ a b : List Nat, cmpN a b = -1 ∨ cmpN a b = 0 ∨ cmpN a b = 1
  | [], [] => by simp [cmpN]
  | [], _ :: _ => by simp [cmpN]
  | _ :: _, [] => by simp [cmpN]
  | a :: as, b :: bs => by
    have := cmpN_vals as bs
    unfold cmpN
    split
    · simp
    · split
      · simp
      · exact this
theorem cmpN_refl : ∀ a : List Nat, cmpN a a = 0
  | [] => rfl
  | a :: as => by simp [cmpN, cmpN_refl as]
theorem cmpN_swap : ∀ a b : List Nat, cmpN a b = - cmpN b a
  | [], [] => by simp [cmpN]
  | [], _ :: _ => by simp [cmpN]
  | _ :: _, [] => by simp [cmpN]
  | a :: as, b :: bs => by
    have := cmpN_swap as bs
    unfold cmpN
    by_cases h1 : a < b
    · rw [if_pos h1, if_neg (by omega), if_pos h1]
    · by_cases h2 : b < a
      · rw [if_neg h1, if_pos h2, if_pos h2]; rfl
      · rw [if_neg h1, if_neg h2, if_neg h2, if_neg h1]; exact this
theorem cmpN_eq : ∀ a b : List Nat, cmpN a b = 0 → a = b
  | [], [], _ => rfl
  | [], _ :: _, h => by simp [cmpN] at h
  | _ :: _, [], h => by simp [cmpN] at h
  | a :: as, b :: bs, h => by
    unfold cmpN at h
    by_cases h1 : a < b
    · rw [if_pos h1] at h; simp at h
    · by_cases h2 : b < a
      · rw [if_neg h1, if_pos h2] at h; simp at h
      · rw [if_neg h1, if_neg h2] at h
        rw [show a = b by omega, cmpN_eq as bs h]
theorem cmpN_trans : ∀ a b c : List Nat, cmpN a b ≤ 0 → cmpN b c ≤ 0 → cmpN a c ≤ 0
  | [], _, [], _, _ => by simp [cmpN]
  | [], _, _ :: _, _, _ => by simp [cmpN]
  | _ :: _, [], _, h, _ => by simp [cmpN] at h
  | _ :: _, _ :: _, [], _, h => by simp [cmpN] at h
  | a :: as, b :: bs, c :: cs, h1, h2 => by
    have ih := cmpN_trans as bs cs
    unfold cmpN at h1 h2 ⊢
    by_cases e1 : a < b
    · by_cases e2 : b < c
      · rw [if_pos (by omega)]; omega
      · by_cases e3 : c < b
        · rw [if_neg e2, if_pos e3] at h2; omega
        · rw [if_pos (by omega)]; omega
    · by_cases e3 : b < a
      · rw [if_neg e1, if_pos e3] at h1; omega
      · rw [if_neg e1, if_neg e3] at h1
        by_cases e2 : b < c
        · rw [if_pos (by omega)]; omega
        · by_cases e4 : c < b
          · rw [if_neg e2, if_pos e4] at h2; omega
          · rw [if_neg e2, if_neg e4] at h2
            rw [if_neg (by omega), if_neg (by omega)]
            exact ih h1 h2
theorem cmpN_total (a b : List Nat) : cmpN a b ≤ 0 ∨ cmpN b a ≤ 0 := by
  have := cmpN_swap a b
  omega

/-! ### heads -/
def headK : Nat → List Nat → Nat
  | 0, _ => 0
  | _ + 1, [] => 0
  | k + 1, a :: l => a * 256 ^ k + headK k l
theorem headK_lt : ∀ (k : Nat) (l : List Nat), (∀ a ∈ l, a < 256) → headK k l < 256 ^ k
  | 0, _, _ => by simp [headK]
  | k + 1, [], _ => by simpa [headK] using Nat.pow_pos (n := k + 1) (show 0 < 256 by omega)
  | k + 1, a :: l, h => by
    have h1 := headK_lt k l (fun x hx => h x (by simp [hx]))
    have h2 := h a (by simp)
    have h3 : a * 256 ^ k + 256 ^ k ≤ 256 ^ (k + 1) := by
      rw [Nat.pow_succ, Nat.mul_comm (256 ^ k) 256, ← Nat.succ_mul]
      exact Nat.mul_le_mul_right _ h2
    unfold headK
    omega
theorem headK_cmp : ∀ (k : Nat) (x y : List Nat), (∀ a ∈ x, a < 256) → (∀ a ∈ y, a < 256) → headK k x < headK k y → cmpN x y = -1
  | 0, _, _, _, _, h => by simp [headK] at h
  | k + 1, [], [], _, _, h => by simp at h
  | k + 1, [], _ :: _, _, _, _ => by simp [cmpN]
  | k + 1, _ :: _, [], _, _, h => by simp [headK] at h
  | k + 1, a :: x, b :: y, hx, hy, h => by
    have h1 := headK_lt k x (fun z hz => hx z (by simp [hz]))
    have h2 := headK_lt k y (fun z hz => hy z (by simp [hz]))
    unfold headK at h
    unfold cmpN
    by_cases e : a < b
    · rw [if_pos e]
    · by_cases e2 : b < a
      · exfalso
        have h3 : b * 256 ^ k + 256 ^ k ≤ a * 256 ^ k := by rw [← Nat.succ_mul]; exact Nat.mul_le_mul_right _ e2
        omega
      · obtain rfl : a = b := by omega
        rw [if_neg e, if_neg e]
        exact headK_cmp k x y (fun z hz => hx z (by simp [hz])) (fun z hz => hy z (by simp [hz])) (by omega)
/-- what the closure that sorts answers -/
theorem head_first (x y : List Nat) (hx : ∀ a ∈ x, a < 256) (hy : ∀ a ∈ y, a < 256) :
    (if headK 8 x < headK 8 y then (-1 : Int) else if headK 8 y < headK 8 x then 1 else cmpN x y) = cmpN x y := by
  by_cases h1 : headK 8 x < headK 8 y
  · rw [if_pos h1, headK_cmp 8 x y hx hy h1]
  · by_cases h2 : headK 8 y < headK 8 x
    · rw [if_neg h1, if_pos h2, cmpN_swap x y, headK_cmp 8 y x hy hx h2]; rfl
    · rw [if_neg h1, if_neg h2]

/-! ### the merge sort -/
section
variable {α : Type} (le : α → α → Bool)
/-- the stretches of w places, each in order -/
def Chunk (w n : Nat) (A : Nat → α) : Prop := ∀ i j, i < j → j < n → i / w = j / w → le (A i) (A j) = true
/-- b is what a pass over a has laid up to place lo -/
def Pass (w n lo : Nat) (A B : Nat → α) : Prop := ∀ m, 2 * w * m < lo → seg B (2 * w * m) (min n (2 * w * m + 2 * w)) = List.merge (seg A (2 * w * m) (min n (2 * w * m + w))) (seg A (min n (2 * w * m + w)) (min n (2 * w * m + 2 * w))) le

variable {le}
theorem pass_perm {w n : Nat} {A B : Nat → α} (hw : 0 < w) (h : Pass le w n n A B) : ∀ t, (seg B 0 (min n (2 * w * t))).Perm (seg A 0 (min n (2 * w * t))) := by
  intro t
  induction t with
  | zero => simp [seg]
  | succ t ih =>
    by_cases ht : 2 * w * t < n
    · have e := h t ht
      rw [Nat.mul_succ, ← seg_append (f := B) (Nat.zero_le (min n (2 * w * t))) (by omega), ← seg_append (f := A) (Nat.zero_le (min n (2 * w * t))) (by omega)]
      refine ih.append ?_
      rw [show min n (2 * w * t) = 2 * w * t by omega, e]
      have hpm := @List.merge_perm_append α le (seg A (2 * w * t) (min n (2 * w * t + w))) (seg A (min n (2 * w * t + w)) (min n (2 * w * t + 2 * w)))
      rwa [seg_append (by omega) (by omega)] at hpm
    · rw [show min n (2 * w * (t + 1)) = min n (2 * w * t) by rw [Nat.mul_succ]; omega]
      exact ih
theorem pass_all {w n : Nat} {A B : Nat → α} (hw : 0 < w) (h : Pass le w n n A B) : (seg B 0 n).Perm (seg A 0 n) := by
  have := pass_perm hw h n
  rwa [show min n (2 * w * n) = n from Nat.min_eq_left (by rw [Nat.mul_assoc, Nat.mul_left_comm]; exact Nat.le_trans (Nat.le_mul_of_pos_left n hw) (Nat.mul_le_mul_left w (by omega)))] at this

theorem chunk_pairs {w n a b : Nat} {A : Nat → α} (h : Chunk le w n A) (hb : b ≤ n) (hd : ∀ i, a ≤ i → i < b → i / w = a / w) : (seg A a b).Pairwise (fun x y => le x y = true) := by
  rw [List.pairwise_iff_getElem]
  intro i j hi hj hij
  rw [seg_getElem, seg_getElem]
  rw [seg_length] at hi hj
  exact h _ _ (by omega) (by omega) ((hd _ (by omega) (by omega)).trans (hd _ (by omega) (by omega)).symm)
theorem div_at {w m i : Nat} (h1 : w * m ≤ i) (h2 : i < w * m + w) : i / w = m :=
  Nat.div_eq_of_lt_le (by rw [Nat.mul_comm]; exact h1) (by rw [Nat.succ_mul, Nat.mul_comm]; exact h2)
theorem pass_chunk {w n : Nat} {A B : Nat → α} (hw : 0 < w) (ht : ∀ a b c, le a b = true → le b c = true → le a c = true) (hto : ∀ a b, (le a b || le b a) = true) (hA : Chunk le w n A) (h : Pass le w n n A B) : Chunk le (2 * w) n B := by
  intro i j hij hj hd
  obtain ⟨m, hm⟩ : ∃ m, m = i / (2 * w) := ⟨_, rfl⟩
  have hw2 : 0 < 2 * w := by omega
  have i1 : 2 * w * m ≤ i := by rw [hm]; exact Nat.mul_div_le i (2 * w)
  have i2 : i < 2 * w * m + 2 * w := by rw [hm]; exact Nat.lt_mul_div_succ i hw2
  have j1 : 2 * w * m ≤ j := by rw [hm, hd]; exact Nat.mul_div_le j (2 * w)
  have j2 : j < 2 * w * m + 2 * w := by rw [hm, hd]; exact Nat.lt_mul_div_succ j hw2
  have e := h m (by omega)
  have hp : (seg B (2 * w * m) (min n (2 * w * m + 2 * w))).Pairwise (fun x y => le x y = true) := by
    rw [e]
    have e1 : 2 * w * m = w * (2 * m) := by rw [Nat.mul_comm 2 w, Nat.mul_assoc]
    refine List.pairwise_merge ht hto _ _ (chunk_pairs hA (by omega) fun q q1 q2 => ?_) ?_
    · rw [div_at (m := 2 * m) (by omega) (by omega), div_at (m := 2 * m) (by omega) (by omega)]
    · by_cases hn : n ≤ 2 * w * m + w
      · rw [seg_nil (by omega)]; exact List.Pairwise.nil
      · refine chunk_pairs hA (by omega) fun q q1 q2 => ?_
        rw [div_at (m := 2 * m + 1) (by rw [Nat.mul_succ]; omega) (by rw [Nat.mul_succ]; omega), div_at (m := 2 * m + 1) (by rw [Nat.mul_succ]; omega) (by rw [Nat.mul_succ]; omega)]
  rw [List.pairwise_iff_getElem] at hp
  have := hp (i - 2 * w * m) (j - 2 * w * m) (by rw [seg_length]; omega) (by rw [seg_length]; omega) (by omega)
  rw [seg_getElem, seg_getElem, show 2 * w * m + (i - 2 * w * m) = i by omega, show 2 * w * m + (j - 2 * w * m) = j by omega] at this
  exact this
theorem chunk_one (n : Nat) (A : Nat → α) : Chunk le 1 n A := fun i j h _ e => by rw [Nat.div_one, Nat.div_one] at e; omega
theorem chunk_done {w n : Nat} {A : Nat → α} (h : Chunk le w n A) (hw : n ≤ w) : (seg A 0 n).Pairwise (fun x y => le x y = true) :=
  chunk_pairs h (Nat.le_refl _) fun i _ hi => by rw [Nat.div_eq_of_lt (by omega), Nat.zero_div]
end

/-- Two rows in order, of the same things: their keys are the same row. -/
theorem same_keys {α : Type} (key : α → List Nat) (l1 l2 : List α) (hp : l1.Perm l2) (h1 : l1.Pairwise (fun x y => cmpN (key x) (key y) ≤ 0)) (h2 : l2.Pairwise (fun x y => cmpN (key x) (key y) ≤ 0)) : l1.map key = l2.map key := by
  refine List.Perm.eq_of_pairwise (le := fun x y => cmpN x y ≤ 0) (fun a b _ _ h3 h4 => cmpN_eq a b ?_) ?_ ?_ (hp.map key)
  · have := cmpN_swap a b
    omega
  · rw [List.pairwise_map]; exact h1
  · rw [List.pairwise_map]; exact h2
end Go.Proofs.Qxb6608761a
