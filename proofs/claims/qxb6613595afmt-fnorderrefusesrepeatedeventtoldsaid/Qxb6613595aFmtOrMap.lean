import Derived.Test.Qxb6613595aFmtOrWeigh
import Derived.Maps.OwnSet
import Derived.DeepKeys4
namespace Go.Proofs.Qxb6613595aFmt
open Go.RowKit Go.Maps Go.WideMaps

theorem laidOut : laidOutB Tryf.prog = true := by kernel_rfl
theorem law9 : Keyed Tryf.prog 9 := string_keyed Tryf.underlying9
theorem law88 : Keyed Tryf.prog 88 := Keyed.of_law (deep_law_laid laidOut (m := 2) (by omega) (of_decide_eq_true (by kernel_rfl)) (by kernel_rfl) (by kernel_rfl))
theorem zero3 (w : World) : (zeroValue 3).run Tryf.prog w = .ok (.int .i64 0) w := by kernel_rfl

/-- Where a thing first stands in a list. -/
def ix {α : Type} [DecidableEq α] (L : List α) (a : α) : Nat := L.idxOf a
theorem ix_old {α : Type} [DecidableEq α] {L : List α} {a : α} (h : a ∈ L) (b : α) : ix (L ++ [b]) a = ix L a := by unfold ix; rw [List.idxOf_append, if_pos h]
theorem ix_new {α : Type} [DecidableEq α] {L : List α} {a : α} (h : a ∉ L) : ix (L ++ [a]) a = L.length := by unfold ix; rw [List.idxOf_append, if_neg h]; simp
theorem ix_lt {α : Type} [DecidableEq α] {L : List α} {a : α} (h : a ∈ L) : ix L a < L.length := List.idxOf_lt_length_of_mem h
theorem ix_get {α : Type} [DecidableEq α] {L : List α} {a : α} (h : a ∈ L) : L[ix L a]? = some a := by
  have h1 : L.idxOf a < L.length := List.idxOf_lt_length_of_mem h
  have h2 : L[L.idxOf a]? = some a := by rw [List.getElem?_eq_getElem h1, List.getElem_idxOf]
  exact h2

/-- A map from keys to the places at which they first stand in a list. -/
def IMap {α : Type} [DecidableEq α] (K : TypeId) (kv : α → Value) (L : List α) (sz b : Nat) (w : World) : Prop :=
  ∃ D : DataW Unit, w.ownsMap Tryf.prog K (plainElem Tryf.prog 3) b sz D ∧ Maps.size D = sz ∧ (∀ a kl, keyOf Tryf.prog K (kv a) = some kl → Maps.has D kl = decide (a ∈ L)) ∧
    ∀ a kl, keyOf Tryf.prog K (kv a) = some kl → a ∈ L → D.atKey kl (.lit (.int .i64 0)) = .lit (.int .i64 (ix L a : Nat))

variable {α : Type} [DecidableEq α] {K T : TypeId} {kv : α → Value} {L : List α} {sz b : Nat} {w : World}

theorem IMap.lt (h : IMap K kv L sz b w) : b < w.heap.size := by obtain ⟨D, h1, _⟩ := h; exact h1.lt
theorem IMap.kept {w' : World} {row : Option Nat} (h : IMap K kv L sz b w) (hg : w.grownBy w' row) (hne : some b ≠ row) : IMap K kv L sz b w' := by
  obtain ⟨D, h1, h2⟩ := h
  exact ⟨D, h1.kept hg hne, h2⟩
theorem IMap.same {w' : World} (h : IMap K kv L sz b w) (hb : w'.heap[b]? = w.heap[b]?) : IMap K kv L sz b w' := by
  obtain ⟨D, ⟨es, clock, h0, rest⟩, h2⟩ := h
  exact ⟨D, ⟨es, clock, hb.trans h0, rest⟩, h2⟩
theorem IMap.made (w : World) : IMap K kv [] 0 w.heap.size (w.alloc (.map #[] 0)) :=
  ⟨.map [], World.ownsMap_made w _ _ _, rfl, fun _ _ _ => rfl, fun _ _ _ h => by cases h⟩
theorem IMap.len (h : IMap K kv L sz b w) (ht : Tryf.prog.underlying T = some (.map K 3)) (ty : TypeId) : (Builtin.len_ #[T] ty #[.map (some b)]).run Tryf.prog w = .ok (.int .i64 sz) w := by
  obtain ⟨D, h1, h2, _⟩ := h
  rw [h1.len ht ty, h2]
theorem IMap.hit (h : IMap K kv L sz b w) (hK : Keyed Tryf.prog K) (ht : Tryf.prog.underlying T = some (.map K 3)) {a : α} {kl : Lit} (hk : keyOf Tryf.prog K (kv a) = some kl) (ha : a ∈ L) :
    (Instr.lookup T (.map (some b)) (kv a) true).run Tryf.prog w = .ok (.tuple #[.int .i64 (ix L a : Nat), .bool true]) w := by
  obtain ⟨D, h1, _, h3, h4⟩ := h
  obtain ⟨v, ps, hr, hv⟩ := h1.look_ok hK ht (zero3 w) (plainElem_int Tryf.underlying3 (by decide)) hk
  rw [h4 a kl hk ha] at hv
  obtain ⟨c, rfl, hc, _⟩ := plainElem_int_inv Tryf.underlying3 hv
  simp only [Prod.mk.injEq, DataW.lit.injEq, Lit.int.injEq, true_and] at hc
  rw [hr, h3 a kl hk, hc.1, decide_eq_true ha]
theorem IMap.miss (h : IMap K kv L sz b w) (hK : Keyed Tryf.prog K) (ht : Tryf.prog.underlying T = some (.map K 3)) {a : α} {kl : Lit} (hk : keyOf Tryf.prog K (kv a) = some kl) (ha : a ∉ L) :
    (Instr.lookup T (.map (some b)) (kv a) true).run Tryf.prog w = .ok (.tuple #[.int .i64 0, .bool false]) w := by
  obtain ⟨D, h1, _, h3, h4⟩ := h
  obtain ⟨v, ps, hr, hv⟩ := h1.look_ok hK ht (zero3 w) (plainElem_int Tryf.underlying3 (by decide)) hk
  have h5 := h3 a kl hk
  rw [decide_eq_false ha] at h5
  rw [Maps.atKey_of_not_has h5] at hv
  obtain ⟨c, rfl, hc, _⟩ := plainElem_int_inv Tryf.underlying3 hv
  simp only [Prod.mk.injEq, DataW.lit.injEq, Lit.int.injEq, true_and] at hc
  rw [hr, h5, ← hc.1]
theorem IMap.again (h : IMap K kv L sz b w) {a : α} (ha : a ∈ L) : IMap K kv (L ++ [a]) sz b w := by
  obtain ⟨D, h1, h2, h3, h4⟩ := h
  refine ⟨D, h1, h2, fun x kl hk => ?_, fun x kl hk hx => ?_⟩
  · rw [h3 x kl hk]
    by_cases hxa : x = a
    · subst hxa; simp [ha]
    · simp [hxa]
  · have hx' : x ∈ L := by
      by_cases hxa : x = a
      · rw [hxa]; exact ha
      · simpa [hxa] using hx
    rw [h4 x kl hk hx', ix_old hx']
theorem IMap.put (h : IMap K kv L sz b w) (hK : Keyed Tryf.prog K) (ht : Tryf.prog.underlying T = some (.map K 3)) (hi : ∀ x y, kv x = kv y → x = y) {a : α} {kl : Lit} (hk : keyOf Tryf.prog K (kv a) = some kl) (ha : a ∉ L) (hL : L.length < 1048576 * 2) (hs : sz < 1048576 * 2) :
    ∃ w', (Instr.mapUpdate T (.map (some b)) (kv a) (.int .i64 (L.length : Nat))).run Tryf.prog w = .ok () w' ∧ IMap K kv (L ++ [a]) (sz + 1) b w' ∧ w.grownBy w' (some b) := by
  obtain ⟨D, h1, h2, h3, h4⟩ := h
  have wf : (Lit.int .i64 ((L.length : Nat) : Int)).wf = true := by
    simp [Lit.wf, IntKind.min, IntKind.max, IntKind.signed, IntKind.bits]; omega
  obtain ⟨w', hr, ho, hg⟩ := h1.update hK ht (by unfold maxLen; omega) hk (plainElem_int Tryf.underlying3 wf)
  have h5 := h3 a kl hk
  rw [decide_eq_false ha] at h5
  have hne : ∀ x kx, keyOf Tryf.prog K (kv x) = some kx → x ≠ a → kx ≠ kl := fun x kx hx hxa e => by
    subst e
    exact hxa (hi _ _ (hK.inj hx hk))
  refine ⟨w', hr, ⟨_, ho, ?_, fun x kx hx => ?_, fun x kx hx hxm => ?_⟩, hg⟩
  · rw [Maps.size_put (h1.tidy hK), h5, h2]; rfl
  · by_cases hxa : x = a
    · subst hxa
      rw [hk] at hx
      cases hx
      rw [Maps.has_put_same h1.isMap (hK.key hk)]
      simp
    · rw [Maps.has_put_other (hne x kx hx hxa), h3 x kx hx]
      simp [hxa]
  · by_cases hxa : x = a
    · subst hxa
      rw [hk] at hx
      cases hx
      rw [Maps.atKey_put_same h1.isMap (hK.key hk), ix_new ha]
    · have hx' : x ∈ L := by simpa [hxa] using hxm
      rw [Maps.atKey_put_other (hne x kx hx hxa), h4 x kx hx hx', ix_old hx']

/-- Hosts as keys. -/
def kvS (s : List UInt8) : Value := .string ⟨s.toArray⟩
theorem kvS_of (s : ByteArray) : kvS s.data.toList = .string s := by unfold kvS; simp
theorem kvS_inj (x y : List UInt8) (h : kvS x = kvS y) : x = y := by
  unfold kvS at h
  simpa using h
theorem kvS_key (s : List UInt8) (h : s.length ≤ 1048576) : ∃ kl, keyOf Tryf.prog 9 (kvS s) = some kl := ⟨_, keyOf_string_mk Tryf.underlying9 (by
  have : (⟨s.toArray⟩ : ByteArray).size = s.length := by simp [ByteArray.size]
  unfold maxLen; omega)⟩
/-- Stamps as keys. -/
def kvP (p : Nat × Nat) : Value := .agg #[.int .i64 (p.1 : Nat), .int .u64 (p.2 : Nat)]
theorem kvP_inj (x y : Nat × Nat) (h : kvP x = kvP y) : x = y := by
  unfold kvP at h
  simp at h
  exact Prod.ext (by omega) (by omega)
theorem kvP_key (p : Nat × Nat) (h1 : p.1 < 9223372036854775808) (h2 : p.2 < 18446744073709551616) : ∃ kl, keyOf Tryf.prog 88 (kvP p) = some kl := by
  obtain ⟨x, y⟩ := p
  have w1 : (Lit.int .i64 (x : Int)).wf = true := by simp [Lit.wf, IntKind.min, IntKind.max, IntKind.signed, IntKind.bits]; omega
  have w2 : (Lit.int .u64 (y : Int)).wf = true := by simp [Lit.wf, IntKind.min, IntKind.max, IntKind.signed, IntKind.bits]; omega
  unfold keyOf kvP
  rw [Tryf.underlying88]
  simp only
  have k1 : Tryf.prog.keyType 88 = true := by kernel_rfl
  have k2 : Value.formed Tryf.prog 88 (.agg #[.int .i64 (x : Int), .int .u64 (y : Int)]) = true := by
    simp only [Value.formed, Tryf.underlying88]
    rw [show Tryf.prog.cellsOf 88 = 2 by kernel_rfl]
    rfl
  obtain ⟨m, hm⟩ : ∃ m, Tryf.prog.types.size + 1 = m + 1 + 1 := ⟨Tryf.prog.types.size - 1, by have : 1 ≤ Tryf.prog.types.size := of_decide_eq_true (by kernel_rfl); omega⟩
  rw [k1, k2, hm]
  simp [Program.keyLits, Tryf.underlying88, Tryf.underlying3, Tryf.underlying42, Value.cells, show Tryf.prog.cellsOf 88 = 2 by kernel_rfl, show Tryf.prog.cellsOf 3 = 1 by kernel_rfl, show Tryf.prog.cellsOf 42 = 1 by kernel_rfl, w1, w2]
end Go.Proofs.Qxb6613595aFmt
