import Derived.Test.Qxb6613595aFmtOrZ5
import Derived.Test.Qxb6613595aFmtOrAps
namespace Go.Proofs.Qxb6613595aFmt
open Go.RowKit Go.Maps Go.Extern.Stop Go.Stop Go.Extern
set_option linter.unusedVariables false

/-- The event that is made of z; its entries lie at eb. -/
def mkEv (z : Zv) (eb : Nat) : Ev := ⟨z.host, z.hn, z.E, eb, z.text, z.line, z.file, z.exec⟩
def six (e : Ev) : List Value := [.string e.host, .slice (some ⟨e.eb, 0, none⟩) e.ne e.ne, .string e.text, .int .i64 e.line, .string e.file, .string e.exec]
def flatE (z : Nat → Zv) (L : List (Nat × Nat)) : List Value := L.flatMap fun x => six (mkEv (z x.1) x.2)
theorem flatE_snoc (z : Nat → Zv) (L : List (Nat × Nat)) (x : Nat × Nat) : flatE z (L ++ [x]) = flatE z L ++ six (mkEv (z x.1) x.2) := by simp [flatE]
theorem six_get (e : Ev) (k : Nat) (hk : k < 6) : (six e)[k]? = some (e.cell k) := by
  match k, hk with
  | 0, _ => rfl
  | 1, _ => rfl
  | 2, _ => rfl
  | 3, _ => rfl
  | 4, _ => rfl
  | 5, _ => rfl
theorem flatE_get (z : Nat → Zv) : ∀ (L : List (Nat × Nat)) (i : Nat) (x : Nat × Nat), L[i]? = some x → ∀ k, k < 6 → (flatE z L)[i * 6 + k]? = some ((mkEv (z x.1) x.2).cell k)
  | [], i, x, h, k, hk => by simp at h
  | y :: L, 0, x, h, k, hk => by
    simp only [List.getElem?_cons_zero, Option.some.injEq] at h
    subst h
    show (six _ ++ flatE z L)[0 * 6 + k]? = _
    rw [Nat.zero_mul, Nat.zero_add, List.getElem?_append_left (by simp only [six, List.length_cons, List.length_nil]; omega)]
    exact six_get _ k hk
  | y :: L, i + 1, x, h, k, hk => by
    simp only [List.getElem?_cons_succ] at h
    show (six (mkEv (z y.1) y.2) ++ flatE z L)[(i + 1) * 6 + k]? = _
    rw [List.getElem?_append_right (by simp only [six, List.length_cons, List.length_nil]; omega), show (i + 1) * 6 + k - (six (mkEv (z y.1) y.2)).length = i * 6 + k by simp only [six, List.length_cons, List.length_nil]; omega]
    exact flatE_get z L i x h k hk

/-- An event's entries, in a row of their own. -/
def Ent (z : Zv) (eb : Nat) (W : World) : Prop := ∃ f, Row W eb (z.hn * 2) 62 f ∧ ∀ j, j < z.hn → f (j * 2) = .string (z.Hs j) ∧ f (j * 2 + 1) = .int .u64 (z.Cs j : Nat)
theorem Ent.lt {z : Zv} {eb : Nat} {W : World} (h : Ent z eb W) : eb < W.heap.size := by
  obtain ⟨f, h1, _⟩ := h
  exact h1.lt
theorem Ent.same {z : Zv} {eb : Nat} {W W' : World} (h : Ent z eb W) (hb : W'.heap[eb]? = W.heap[eb]?) : Ent z eb W' := by
  obtain ⟨f, h1, h2⟩ := h
  exact ⟨f, h1.same hb, h2⟩
theorem Ent.rd {z : Zv} {eb : Nat} {W : World} (h : Ent z eb W) : RdE W eb z.hn z.E := by
  obtain ⟨f, h1, h2⟩ := h
  intro i hi
  obtain ⟨e1, e2⟩ := h2 i hi
  exact ⟨by rw [h1.cell _ (by omega), e1]; rfl, by rw [h1.cell _ (by omega), e2]; rfl⟩
theorem Ent.tag {z : Zv} {eb : Nat} {W : World} (h : Ent z eb W) {base : Nat} {v : Value} {n : Nat} {xs : List Value} (ho : W.ownsRow base 31 6 v n xs) : some eb ≠ v.ownBlock := fun e => by
  obtain ⟨f, h1, _⟩ := h
  obtain ⟨_, c, h3⟩ := own_tag ho e.symm
  unfold Row at h1
  rw [h1] at h3
  cases h3

/-- The slice of events under construction. -/
structure Sx (w : World) (z : Nat → Zv) (v : Value) (L : List (Nat × Nat)) (W : World) : Prop where
  bel : Below w.heap.size w W
  own : W.ownsRow w.heap.size 31 6 v L.length (flatE z L)
  ent : ∀ x, x ∈ L → Ent (z x.1) x.2 W

theorem i31 : (Tryf.prog.info? 31).map (fun i => (i.zero, i.size, i.bytes)) = some (some (.agg #[.string ⟨#[]⟩, .slice none 0 0, .string ⟨#[]⟩, .int .i64 0, .string ⟨#[]⟩, .string ⟨#[]⟩]), 6, 96) := by kernel_rfl

theorem app_ev (w : World) (z : Nat → Zv) (v : Value) (L : List (Nat × Nat)) (W W1 : World) (j eb : Nat) (hS : Sx w z v L W) (hb : Below W.heap.size W W1) (he : Ent (z j) eb W1) (hl : L.length ≤ 4098) :
    ∃ v' W', (Builtin.append_ #[26, 26] 26 #[v, .slice (some ⟨W1.heap.size, 0, none⟩) 1 1]).run Tryf.prog (W1.alloc (.cells #[.string (z j).host, .slice (some ⟨eb, 0, none⟩) (z j).hn (z j).hn, .string (z j).text, .int .i64 (z j).line, .string (z j).file, .string (z j).exec] 31)) = .ok v' W' ∧ Sx w z v' (L ++ [(j, eb)]) W' := by
  obtain ⟨i, i1, i2, i3, i4⟩ := info_parts i31
  obtain ⟨W2, hW2⟩ : ∃ W2, W1.alloc (.cells #[.string (z j).host, .slice (some ⟨eb, 0, none⟩) (z j).hn (z j).hn, .string (z j).text, .int .i64 (z j).line, .string (z j).file, .string (z j).exec] 31) = W2 := ⟨_, rfl⟩
  have b1 : Below W1.heap.size W1 W2 := by rw [← hW2]; exact (Below.refl _ W1).alloc (Nat.le_refl _) _
  have c1 : W2.heap[W1.heap.size]? = some (.cells #[.string (z j).host, .slice (some ⟨eb, 0, none⟩) (z j).hn (z j).hn, .string (z j).text, .int .i64 (z j).line, .string (z j).file, .string (z j).exec] 31 (0, 0)) := by rw [← hW2]; exact heap_alloc_new W1 _
  have s1 := hb.size
  have s2 := b1.size
  have s0 := hS.bel.size
  have own1 : W1.ownsRow w.heap.size 31 6 v L.length (flatE z L) := own_keep hS.own fun b c _ hc _ => (hb.block b (blk_lt hc)).trans hc
  have own2 : W2.ownsRow w.heap.size 31 6 v L.length (flatE z L) := own_keep own1 fun b c _ hc _ => (b1.block b (blk_lt hc)).trans hc
  rw [hW2]
  clear hW2
  obtain ⟨v', W', hr, ho, hg, _, _⟩ := run_append_own_at (P := Tryf.prog) W2 w.heap.size 26 26 31 i _ 6 96 Tryf.underlying26 i1 i2 i3 i4 rfl (by decide) v L.length (flatE z L) own2 ⟨W1.heap.size, 0, none⟩ 1 1 (six (mkEv (z j) eb)) rfl
    (fun q u hj => by
      rw [Addr.add_lit, cell_blk c1]
      simpa [six, mkEv] using hj) (by simp [six, Value.oneCell']) (by unfold maxLen; omega) (by omega) (by omega)
  have e2 : Ent (z j) eb W2 := he.same (b1.block _ he.lt)
  refine ⟨v', W', hr, ⟨hg.os.trans (b1.os.trans (hb.os.trans hS.bel.os)), hg.tape.trans (b1.tape.trans (hb.tape.trans hS.bel.tape)), hg.output.trans (b1.output.trans (hb.output.trans hS.bel.output)), by have := hg.size; omega, fun k hk => (hg.block k (by omega) (fun e => by have := (own_tag own2 e.symm).1; omega)).trans ((b1.block k (by omega)).trans ((hb.block k (by omega)).trans (hS.bel.block k hk)))⟩, ?_, fun x hx => ?_⟩
  · rw [show (L ++ [(j, eb)]).length = L.length + 1 by simp, flatE_snoc]
    exact ho
  · rcases List.mem_append.1 hx with h | h
    · have e0 := hS.ent x h
      have e1 := e0.same (hb.block _ e0.lt)
      have e3 := e1.same (b1.block _ e1.lt)
      exact e3.same (hg.block _ e3.lt (e3.tag own2))
    · simp only [List.mem_singleton] at h
      subst h
      exact e2.same (hg.block _ e2.lt (e2.tag own2))

/-- The indices of the events, with k once more at place a. -/
def ins (k a : Nat) : Nat → List Nat
  | 0 => []
  | p + 1 => ins k a p ++ (if p = a then [k] else []) ++ [p]
def insN (k a n : Nat) : List Nat := ins k a n ++ (if a = n then [k] else [])
theorem ins_len (k a : Nat) : ∀ p, (ins k a p).length = p + (if a < p then 1 else 0)
  | 0 => by simp [ins]
  | p + 1 => by
    simp only [ins, List.length_append, ins_len k a p, List.length_singleton]
    by_cases h : p = a
    · subst h; simp
    · rw [if_neg h]
      by_cases h2 : a < p
      · rw [if_pos h2, if_pos (by omega)]; simp
      · rw [if_neg h2, if_neg (by omega)]; simp
theorem ins_lt (k a : Nat) : ∀ p x, x ∈ ins k a p → x < p ∨ x = k
  | 0, x, h => by simp [ins] at h
  | p + 1, x, h => by
    simp only [ins, List.mem_append, List.mem_singleton] at h
    rcases h with (h | h) | h
    · rcases ins_lt k a p x h with h | h
      · exact .inl (by omega)
      · exact .inr h
    · by_cases e : p = a
      · rw [if_pos e] at h; exact .inr (by simpa using h)
      · rw [if_neg e] at h; simp at h
    · exact .inl (by omega)
theorem ins_cnt (k a : Nat) : ∀ p, (ins k a p).count k = (if k < p then 1 else 0) + (if a < p then 1 else 0)
  | 0 => by simp [ins]
  | p + 1 => by
    simp only [ins, List.count_append, ins_cnt k a p, List.count_singleton]
    by_cases h : p = a
    · subst h
      by_cases h3 : p = k
      · subst h3; simp
      · by_cases h4 : k < p
        · simp [h3, h4, show k < p + 1 by omega]
        · simp [h3, h4, show ¬ k < p + 1 by omega]
    · rw [if_neg h]
      have e2 : (if a < p + 1 then 1 else 0) = (if a < p then 1 else 0) := by
        by_cases h2 : a < p
        · rw [if_pos h2, if_pos (by omega)]
        · rw [if_neg h2, if_neg (by omega)]
      rw [e2]
      by_cases h3 : p = k
      · subst h3; simp; omega
      · by_cases h4 : k < p
        · simp [h3, h4, show k < p + 1 by omega]
        · simp [h3, h4, show ¬ k < p + 1 by omega]
theorem two_of_count (k : Nat) : ∀ l : List Nat, 2 ≤ l.count k → ∃ i j : Nat, i < j ∧ l[i]? = some k ∧ l[j]? = some k
  | [], h => by simp at h
  | x :: l, h => by
    by_cases e : x = k
    · subst e
      rw [List.count_cons_self] at h
      have hm : x ∈ l := List.count_pos_iff.1 (by omega)
      obtain ⟨j, hj, hx⟩ := List.getElem_of_mem hm
      exact ⟨0, j + 1, by omega, rfl, by simp [hj, hx]⟩
    · rw [List.count_cons_of_ne e] at h
      obtain ⟨i, j, h1, h2, h3⟩ := two_of_count k l h
      exact ⟨i + 1, j + 1, by omega, by simpa using h2, by simpa using h3⟩
def sumL (z : Nat → Zv) (l : List Nat) : Nat := (l.map fun j => (z j).hn).sum
theorem sumL_app (z : Nat → Zv) (l m : List Nat) : sumL z (l ++ m) = sumL z l + sumL z m := by simp [sumL]
theorem ins_sum (z : Nat → Zv) (k a : Nat) : ∀ p, sumL z (ins k a p) = SZ z p + (if a < p then (z k).hn else 0)
  | 0 => by simp [ins, sumL, SZ]
  | p + 1 => by
    simp only [ins, sumL_app, ins_sum z k a p, SZ]
    have e1 : sumL z [p] = (z p).hn := by simp [sumL]
    have e2 : sumL z [k] = (z k).hn := by simp [sumL]
    rw [e1]
    by_cases h : p = a
    · subst h; rw [if_pos rfl, e2, if_neg (by omega), if_pos (by omega)]; omega
    · rw [if_neg h, show sumL z [] = 0 from rfl]
      by_cases h2 : a < p
      · rw [if_pos h2, if_pos (by omega)]; omega
      · rw [if_neg h2, if_neg (by omega)]; omega
theorem SZ_le (z : Nat → Zv) (n : Nat) : ∀ k, k < n → (z k).hn ≤ SZ z n := by
  induction n with
  | zero => intro k h; omega
  | succ n ih =>
    intro k h
    simp only [SZ]
    by_cases e : k = n
    · subst e; omega
    · have := ih k (by omega); omega

/-- What the guards say of each event. -/
structure Gd (z : Zv) : Prop where
  bz : Bz z
  lw : (Lit.int .i64 z.line).wf = true
  cb : ∀ j, j < z.hn → z.Cs j < 18446744073709551616

def evOf (z : Nat → Zv) (L : List (Nat × Nat)) (i : Nat) : Ev := mkEv (z ((L[i]?).getD (0, 0)).1) ((L[i]?).getD (0, 0)).2
theorem evOf_some (z : Nat → Zv) {L : List (Nat × Nat)} {i : Nat} {x : Nat × Nat} (h : L[i]? = some x) : evOf z L i = mkEv (z x.1) x.2 := by simp [evOf, h]
theorem sumE_evOf (z : Nat → Zv) (L : List (Nat × Nat)) : ∀ m, m ≤ L.length → sumE (evOf z L) m = sumL z ((L.take m).map Prod.fst)
  | 0, _ => by simp [sumE, sumL]
  | m + 1, h => by
    obtain ⟨x, hx⟩ : ∃ x, L[m]? = some x := ⟨_, List.getElem?_eq_getElem (by omega)⟩
    rw [sumE, sumE_evOf z L m (by omega), evOf_some z hx, List.take_add_one, hx, List.map_append, sumL_app]
    simp [sumL, mkEv]

theorem fin_any (w : World) (z : Nat → Zv) (v : Value) (L : List (Nat × Nat)) (W : World) (n k a : Nat) (hS : Sx w z v L W) (hL : L.map Prod.fst = insN k a n) (hk : k < n) (ha : a ≤ n) (hG : ∀ i, i < n → Gd (z i)) (hz : 16 * SZ z n ≤ 1048576) :
    ∃ g C ev a0 a1, v = .slice (some ⟨g, 0, none⟩) (n + 1) C ∧ RdEv W.heap.size W g (n + 1) ev ∧ sumE ev (n + 1) ≤ 1000000 ∧ Ln (n + 1) ev ∧ a0 < n + 1 ∧ a1 < n + 1 ∧ a0 ≠ a1 ∧ (ev a0).host = (ev a1).host ∧ getE (ev a0).E (ev a0).ne (ev a0).host = getE (ev a1).E (ev a1).ne (ev a1).host := by
  have hlen : L.length = n + 1 := by
    have h := congrArg List.length hL
    simp only [List.length_map, insN, List.length_append, ins_len] at h
    by_cases e : a = n
    · subst e; simp at h; exact h
    · rw [if_neg e, if_pos (by omega)] at h; simpa using h
  have hmem : ∀ x, x ∈ L → x.1 < n := fun x hx => by
    have h : x.1 ∈ insN k a n := by rw [← hL]; exact List.mem_map_of_mem hx
    simp only [insN, List.mem_append] at h
    rcases h with h | h
    · rcases ins_lt k a n _ h with h | h <;> omega
    · by_cases e : a = n
      · rw [if_pos e] at h; simp at h; omega
      · rw [if_neg e] at h; simp at h
  have hget : ∀ i, i < n + 1 → ∃ x, L[i]? = some x ∧ x ∈ L := fun i hi => ⟨_, List.getElem?_eq_getElem (by omega), List.getElem_mem _⟩
  have hcnt : 2 ≤ (insN k a n).count k := by
    rw [insN, List.count_append, ins_cnt, if_pos hk]
    by_cases e : a = n
    · rw [if_pos e]; simp
    · rw [if_neg e, if_pos (by omega)]; omega
  obtain ⟨a0, a1, h01, p0, p1⟩ := two_of_count k _ hcnt
  rw [← hL, List.getElem?_map] at p0 p1
  have q0 : a0 < n + 1 := by
    rcases Nat.lt_or_ge a0 (n + 1) with h | h
    · exact h
    · rw [List.getElem?_eq_none (by omega)] at p0; cases p0
  have q1 : a1 < n + 1 := by
    rcases Nat.lt_or_ge a1 (n + 1) with h | h
    · exact h
    · rw [List.getElem?_eq_none (by omega)] at p1; cases p1
  obtain ⟨x0, g0, _⟩ := hget a0 q0
  obtain ⟨x1, g1, _⟩ := hget a1 q1
  rw [g0] at p0
  rw [g1] at p1
  have z0 : x0.1 = k := by simpa using p0
  have z1 : x1.1 = k := by simpa using p1
  have E0 := evOf_some z g0
  have E1 := evOf_some z g1
  have hsum : sumE (evOf z L) (n + 1) ≤ 1000000 := by
    rw [sumE_evOf z L (n + 1) (by omega), List.take_of_length_le (by omega), hL, insN, sumL_app, ins_sum]
    have hkz := SZ_le z n k hk
    have e2 : sumL z [k] = (z k).hn := by simp [sumL]
    by_cases e : a = n
    · rw [if_pos e, if_neg (by omega), e2]; omega
    · rw [if_neg e, if_pos (by omega), show sumL z [] = 0 from rfl]; omega
  rcases hS.own.2 with ⟨_, h⟩ | ⟨g, cap, cur, rfl, hbase, hg, _, _, _, hct⟩
  · omega
  · have hcell : ∀ j, j < L.length * 6 → W.cell? ⟨g, j, none⟩ = (flatE z L)[j]? := fun j hj => by rw [cell_blk hg, ← hct, List.getElem?_take, if_pos hj, Array.getElem?_toList]
    refine ⟨g, cap, evOf z L, a0, a1, by rw [hlen], ⟨blk_lt hg, fun i hi q hq => ?_, fun i hi => ?_, fun i hi => ?_, fun i hi => ?_, fun i hi => ?_, fun i hi p hp => ?_⟩, hsum, fun i hi => ?_, q0, q1, by omega, ?_, ?_⟩
    · obtain ⟨x, hx, _⟩ := hget i hi
      rw [hcell _ (by omega), flatE_get z L i x hx q hq, evOf_some z hx]
    · obtain ⟨x, hx, hm⟩ := hget i hi
      rw [evOf_some z hx]
      exact .inr (hS.ent x hm).lt
    · obtain ⟨x, hx, hm⟩ := hget i hi
      rw [evOf_some z hx]
      exact (hS.ent x hm).rd
    · obtain ⟨x, hx, hm⟩ := hget i hi
      rw [evOf_some z hx]
      have := (hG x.1 (hmem x hm)).bz.hn
      show (z x.1).hn < 1048577
      omega
    · obtain ⟨x, hx, hm⟩ := hget i hi
      rw [evOf_some z hx]
      exact (hG x.1 (hmem x hm)).bz.host
    · obtain ⟨x, hx, hm⟩ := hget i hi
      rw [evOf_some z hx] at hp ⊢
      exact ⟨(hG x.1 (hmem x hm)).bz.hs p hp, (hG x.1 (hmem x hm)).cb p hp⟩
    · obtain ⟨x, hx, hm⟩ := hget i hi
      rw [evOf_some z hx]
      exact ⟨(hG x.1 (hmem x hm)).lw, (hG x.1 (hmem x hm)).bz.file⟩
    · rw [E0, E1, mkEv, mkEv, z0, z1]
    · rw [E0, E1, mkEv, mkEv, z0, z1]
end Go.Proofs.Qxb6613595aFmt
