import Derived.Test.Qxb6608761aEmZz
namespace Go.Proofs.Qxb6608761a
open Go.RowKit Go.Sort

def rowB (n : Nat) (f : Nat → Nat) : List Value := (List.range n).map fun i => .int .u8 (f i : Int)
theorem rowB_length (n : Nat) (f : Nat → Nat) : (rowB n f).length = n := by simp [rowB]
theorem rowB_get (n : Nat) (f : Nat → Nat) (i : Nat) (h : i < n) : (rowB n f)[i]? = some (.int .u8 (f i : Int)) := by simp [rowB, h]
theorem rowB_congr {n : Nat} {f g : Nat → Nat} (h : ∀ i, i < n → f i = g i) : rowB n f = rowB n g := by
  apply List.map_congr_left
  intro i hi
  rw [h i (List.mem_range.1 hi)]
theorem rowB_one (n : Nat) (f : Nat → Nat) : ∀ v ∈ rowB n f, v.oneCell' = true := fun v hv => by
  simp [rowB] at hv; obtain ⟨i, _, rfl⟩ := hv; rfl
/-- A slice of bytes of the call's own: nil, or a whole block. -/
def BB (w : World) (base : Nat) (p : Option Addr) (n : Nat) (f : Nat → Nat) : Prop := (p = none ∧ n = 0) ∨ ∃ b, p = some ⟨b, 0, none⟩ ∧ base ≤ b ∧ w.heap[b]? = some (.cells (rowB n f).toArray 5 (0, 0))
theorem BB.rd {w : World} {base : Nat} {p : Option Addr} {n : Nat} {f : Nat → Nat} (h : BB w base p n f) : Rd w p n f := fun i hi => by
  rcases h with ⟨_, rfl⟩ | ⟨b, rfl, _, hb⟩
  · omega
  · exact ⟨_, rfl, by rw [Addr.add_lit, cell_blk hb, List.getElem?_toArray, Nat.zero_add, rowB_get n f i hi]⟩
theorem BB.bd {w : World} {base : Nat} {p : Option Addr} {n : Nat} {f : Nat → Nat} (h : BB w base p n f) (hn : n ≤ 1048576) (hf : ∀ i, i < n → f i < 256) (m : Nat) (hm : m ≤ n) : Bd w p m n f := by
  refine ⟨fun i hi => h.rd i (by omega), fun e => ?_, fun x hx => ?_, hm, by omega, by omega, fun i hi => hf i (by omega)⟩
  · rcases h with ⟨_, rfl⟩ | ⟨b, rfl, _⟩
    · omega
    · cases e
  · rcases h with ⟨rfl, _⟩ | ⟨b, rfl, _⟩
    · cases hx
    · cases hx; exact ⟨_, _, rfl⟩
theorem BB.fr {w w' : World} {base B : Nat} {ex : Nat → Prop} {p : Option Addr} {n : Nat} {f : Nat → Nat} (h : BB w base p n f) (hf : Fr B ex w w') (hx : ∀ x, p = some x → ¬ ex x.block) : BB w' base p n f := by
  rcases h with h | ⟨b, rfl, hb, e⟩
  · exact .inl h
  · exact .inr ⟨b, rfl, hb, hf.blk b _ _ _ e (by decide) (by decide) (by decide) (hx _ rfl)⟩
theorem BB.below {w w' : World} {base : Nat} {p : Option Addr} {n : Nat} {f : Nat → Nat} (h : BB w base p n f) (hf : Below w.heap.size w w') : BB w' base p n f := by
  rcases h with h | ⟨b, rfl, hb, e⟩
  · exact .inl h
  · exact .inr ⟨b, rfl, hb, by rw [hf.block b (blk_lt e)]; exact e⟩

theorem info5 : (Try.prog.info? 5).map (fun i => (i.zero, i.size, i.bytes)) = some (some (.int .u8 0), 1, 1) := by kernel_rfl
theorem makeB (l n : Nat) (hl : l ≤ n) (hn : n ≤ 1048576) (w : World) : Sem.run Try.prog (Instr.makeSlice 38 (.int .i64 l) (.int .i64 n)) w = .ok (.slice (some ⟨w.heap.size, 0, none⟩) l n) (w.alloc (.cells (rowB n (fun _ => 0)).toArray 5)) := by
  obtain ⟨i, hi, hz, hs, hb⟩ := info_parts info5
  have e : madeCells #[.int .u8 0] (n * 1) = (rowB n (fun _ => 0)).toArray := by
    apply Array.ext'
    apply List.ext_getElem
    · simp [madeCells, rowB]
    · intro j h1 h2
      simp [madeCells, rowB, Nat.mod_one]
  have h := run_make (P := Try.prog) w 38 5 i _ Try.underlying38 hi hz .i64 .i64 l n (by omega) (by omega) (by rw [hb]; omega) (by omega)
  rw [hs] at h
  simp only [Int.toNat_natCast, Value.cells] at h
  rw [← e]
  exact h

theorem rowB_splice (N o m : Nat) (f g : Nat → Nat) (h : o + m ≤ N) :
    ((rowB N f).take o ++ rowB m g ++ (rowB N f).drop (o + m)) = rowB N (fun i => if o ≤ i ∧ i < o + m then g (i - o) else f i) := by
  apply List.ext_getElem?
  intro j
  by_cases hj : j < N
  · rw [rowB_get _ _ _ hj]
    by_cases h1 : j < o
    · rw [List.append_assoc, List.getElem?_append_left (by rw [List.length_take, rowB_length]; omega), List.getElem?_take, if_pos h1, rowB_get _ _ _ hj, if_neg (by omega)]
    · by_cases h2 : j < o + m
      · rw [List.append_assoc, List.getElem?_append_right (by rw [List.length_take, rowB_length]; omega), List.getElem?_append_left (by rw [List.length_take, rowB_length, rowB_length]; omega), List.length_take, rowB_length, Nat.min_eq_left (by omega), rowB_get _ _ _ (by omega), if_pos (by omega)]
      · rw [List.getElem?_append_right (by rw [List.length_append, List.length_take, rowB_length, rowB_length]; omega), List.length_append, List.length_take, rowB_length, rowB_length, Nat.min_eq_left (by omega), List.getElem?_drop, rowB_get _ _ _ (by omega), if_neg (by omega)]
        congr 3
        congr 1
        omega
  · rw [List.getElem?_eq_none (by simp [rowB_length]; omega), List.getElem?_eq_none (by rw [rowB_length]; omega)]

/-- A copy into a block of the call's own, as a run: what is copied is 'g' from place 0 on, m bytes; the two heads are told only where something is copied. -/
theorem copyB (w : World) (b N o m : Nat) (f g : Nat → Nat) (dp sp : Option Addr) (dLen dCap sLen sCap : Nat) (ty : TypeId) (hb : w.heap[b]? = some (.cells (rowB N f).toArray 5 (0, 0))) (hm : Nat.min sLen dLen = m) (ho : o + m ≤ N)
    (hd : 0 < m → dp = some ⟨b, o, none⟩) (hs : ∀ i, i < m → ∃ x, sp = some x ∧ w.cell? (x.add i) = some (.int .u8 (g i : Int))) :
    Sem.run Try.prog (Builtin.copy_ #[38, 38] ty #[.slice dp dLen dCap, .slice sp sLen sCap]) w = .ok (.int .i64 m) (w.setRow b (rowB N (fun i => if o ≤ i ∧ i < o + m then g (i - o) else f i)).toArray) := by
  by_cases h0 : m = 0
  · subst h0
    have e : w.setRow b (rowB N (fun i => if o ≤ i ∧ i < o + 0 then g (i - o) else f i)).toArray = w := by
      rw [rowB_congr (g := f) (fun i _ => by rw [if_neg (by omega)])]
      unfold World.setRow
      congr 1
      apply Array.ext
      · simp
      · intro i h1 h2
        rw [Array.getElem_modify]
        by_cases hi : b = i
        · subst hi
          have : w.heap[b] = .cells (rowB N f).toArray 5 (0, 0) := by
            rw [Array.getElem?_eq_getElem h2] at hb; exact Option.some.inj hb
          simp [this]
        · rw [if_neg hi]
    rw [e]
    exact run_copy_none (P := Try.prog) w 38 38 ty 5 dp sp dLen dCap sLen sCap Try.underlying38 (by kernel_rfl) hm
  · obtain ⟨x, rfl, _⟩ := hs 0 (by omega)
    rw [hd (by omega)]
    have h := run_copyK (P := Try.prog) w 38 38 ty 5 1 b o dLen dCap x sLen sCap (rowB N f).toArray 5 (rowB m g) Try.underlying38 (by kernel_rfl) hb (by rw [rowB_length, hm]; omega)
      (fun j v hj => by
        have hjm : j < m := by
          by_cases hh : j < m
          · exact hh
          · rw [List.getElem?_eq_none (by rw [rowB_length]; omega)] at hj; cases hj
        obtain ⟨y, hy, hc⟩ := hs j hjm
        cases hy
        rw [rowB_get _ _ _ hjm] at hj; cases hj
        exact hc)
      (by simp [rowB_length]; omega) (rowB_one _ _)
    rw [h, rowB_length, hm, rowB_splice N o m f g ho]
    rfl
end Go.Proofs.Qxb6608761a
