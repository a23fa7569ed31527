import Derived.Test.Qxb6608761aEmKw2
import Derived.Laws.StructEq
namespace Go.Proofs.Qxb6608761a
open Go.RowKit Go.Sort
theorem guard47 : Try.prog.eqGuardType Try.prog.depth 47 = false := by kernel_rfl
theorem held47 : Try.prog.stoodInHeld 47 = false := by kernel_rfl
theorem fields47 : Try.prog.underlying 47 = some (.struct (Try.prog.fieldsOf 47)) := by kernel_rfl
theorem part0 (a b : Int) (w : World) : (part 3 #[.int .i64 a, .int .i64 b] 0).run Try.prog w = .ok (.int .i64 a) w := by kernel_rfl
theorem part1 (a b : Int) (w : World) : (part 3 #[.int .i64 a, .int .i64 b] 1).run Try.prog w = .ok (.int .i64 b) w := by kernel_rfl
theorem neqS (a b : Int) (w : World) : (binOp .neq 47 (.agg #[.int .i64 a, .int .i64 b]) (.agg #[.int .i64 a, .int .i64 b])).run Try.prog w = .ok (.bool false) w := by
  have h : (Try.prog.fieldsOf 47) = #[{ name := "Start", type := 3, offset := 0, embedded := false, tag := "", pkgPath := "", byteOffset := 0 }, { name := "End", type := 3, offset := 1, embedded := false, tag := "", pkgPath := "", byteOffset := 8 }] := by kernel_rfl
  rw [run_neq_struct, run_equalIn_agg w 9999 47 _ _ fields47 held47, h]
  have h3 : Try.prog.underlying 3 = some (.int .i64) := by kernel_rfl
  have e (x : Int) (w : World) : (Op.equalIn 9999 3 (.int .i64 x) (.int .i64 x)).run Try.prog w = .ok true w := by rw [run_equalIn_int w 9998 3 .i64 .i64 x x h3]; simp
  simp [Op.eqFields, part0, part1, e]

/-- What the law's tail knows of the world from the new body on: nothing below 'wE' has turned, the new body stands. -/
structure Nb (wE : World) (p3 : Option Addr) (N : Nat) (g : Nat → Nat) (wx : World) : Prop where
  below : Below wE.heap.size wE wx
  nb : BB wx wE.heap.size p3 N g
theorem Nb.next {wE : World} {p3 : Option Addr} {N : Nat} {g : Nat → Nat} {wx w' : World} (h : Nb wE p3 N g wx) (hb : Below wx.heap.size wx w') : Nb wE p3 N g w' := ⟨h.below.trans (hb.mono h.below.size), h.nb.below hb⟩

/-- The law's copy into the new body. -/
theorem newBody {w1 wE w12 W' w13 w14 : World} {p1 p2 p3 : Option Addr} {N E m2 : Nat} {f f1 : Nat → Nat} {Si T : Nat → Nat × Nat} {l' : List Ent} {pd bT : Nat}
    (hB : BB w12 wE.heap.size p3 N f) (hE12 : Below wE.heap.size wE w12) (hW : Below w12.heap.size w12 W') (hMs : Ms f true m2 Si W' w13 bT T) (hC : Cat f T N m2 w13.heap.size w13 w14)
    (hp : l'.Perm (heads f (entsOf Si pd 0 m2).length (entsOf Si pd 0 m2))) (ho : l'.Pairwise (fun x y => cfE f x y ≤ 0)) (hf1 : f1 = mvF f (Si 0).1 (catE f l')) (hlen : (Si 0).1 + (cat f Si m2).length = E) (hEN : E ≤ N)
    (dp : Option Addr) (hd : 0 < E - (Si 0).1 → ∃ x, p3 = some x ∧ dp = some (x.add (Si 0).1)) (_hk : Kw w1 p1 p2 N f f1 wE) :
    ∃ W9, Sem.run Try.prog (Builtin.copy_ #[38, 38] 3 #[.slice dp (E - (Si 0).1) (N - (Si 0).1), .slice (some ⟨w13.heap.size, 0, none⟩) (E - (Si 0).1) N]) w14 = .ok (.int .i64 ((E - (Si 0).1 : Nat) : Int)) W9 ∧ Nb wE p3 N f1 W9 := by
  have hl : (cat f T m2).length = E - (Si 0).1 := by rw [cat_perm_length hMs.perm]; omega
  have e := mvF_cat hp ho hMs.perm hMs.sorted
  have hb14 : Below w12.heap.size w12 w14 := below_tr hW (below_tr hMs.below hC.below)
  have hr := hC.rd (by rw [hl]; omega)
  rw [← e] at hr
  have hl' : (catE f l').length = E - (Si 0).1 := by rw [e]; exact hl
  obtain ⟨W9, h1, h2, h3, h4, h5, h6, h7⟩ := copyN w14 wE.heap.size p3 N (Si 0).1 E f (catE f l') dp w13.heap.size N (hB.below hb14) hEN (by omega) (fun h => hd (by omega)) hr
  rw [hl'] at h1
  refine ⟨W9, h1, ⟨?_, by rw [hf1]; exact h2⟩⟩
  have hb2 := below_tr hE12 hb14
  refine ⟨h3.trans hb2.os, h4.trans hb2.tape, h5.trans hb2.output, by rw [h6]; exact hb2.size, fun b hb => ?_⟩
  rw [h7 b (fun x hx => ?_)]
  · exact hb2.block b hb
  · rcases hB with ⟨h, _⟩ | ⟨b', h, h9, _⟩
    · rw [hx] at h; cases h
    · rw [hx] at h; cases h; simp only; omega

theorem eqB_same (n : Nat) (f : Nat → Nat) : eqB n n f f = true := by simp [eqB]
theorem eqB_keys {f : Nat → Nat} {a b : Nat × Nat} (h : keyOf f a = keyOf f b) : eqB (a.2 - a.1) (b.2 - b.1) (fun i => f (a.1 + i)) (fun i => f (b.1 + i)) = true := by
  unfold keyOf at h
  have hl := congrArg List.length h
  rw [seg_length, seg_length] at hl
  have h1 := seg_shift f a.1 a.2
  have h2 := seg_shift f b.1 b.2
  unfold eqB
  rw [hl] at h1 ⊢
  rw [h1, h2, h]
  simp
/-- The sorted row, place by place. -/
theorem outer_at {f : Nat → Nat} {S T : Nat → Nat × Nat} {pd m : Nat} {L : List Ent} (hp : L.Perm (heads f (entsOf S pd 0 m).length (entsOf S pd 0 m))) (ho : L.Pairwise (fun x y => cfE f x y ≤ 0))
    (hT : (seg T 0 m).Perm (seg S 0 m)) (hs : (seg T 0 m).Pairwise (fun x z => leS f true x z = true)) (k : Nat) (hk : k < m) : ∃ x, L[k]? = some x ∧ keyOf f (pr x) = keyOf f (T k) ∧ ∃ j, j < m ∧ x.s = (S j).1 ∧ x.e = (S j).2 := by
  have hlen : L.length = m := by rw [hp.length_eq, heads_length, entsOf_length]; omega
  obtain ⟨x, hx⟩ : ∃ x, L[k]? = some x := ⟨_, List.getElem?_eq_getElem (by omega)⟩
  refine ⟨x, hx, ?_, mem_of_perm_heads hp (List.mem_of_getElem? hx)⟩
  have h := congrArg (fun l => l[k]?) (keys_eq hp ho hT hs)
  have hs1 : (seg T 0 m)[k]? = some (T k) := by rw [seg_get k (by omega), Nat.zero_add]
  simp only [List.getElem?_map, hx, hs1, Option.map_some] at h
  exact Option.some.inj h
/-- The row that the law gathers. -/
theorem got_perm {f : Nat → Nat} {S G : Nat → Nat × Nat} {pd m : Nat} {L : List Ent} (hp : L.Perm (heads f (entsOf S pd 0 m).length (entsOf S pd 0 m))) (hG : ∀ i x, i < m → L[i]? = some x → G i = pr x) : (seg G 0 m).Perm (seg S 0 m) := by
  have hlen : L.length = m := by rw [hp.length_eq, heads_length, entsOf_length]; omega
  have e : seg G 0 m = L.map pr := by
    apply List.ext_getElem?
    intro j
    by_cases hj : j < m
    · obtain ⟨x, hx⟩ : ∃ x, L[j]? = some x := ⟨_, List.getElem?_eq_getElem (by omega)⟩
      rw [seg_get j (by omega), List.getElem?_map, hx, Nat.zero_add, hG j x hj hx]; rfl
    · rw [List.getElem?_eq_none (by rw [seg_length]; omega), List.getElem?_eq_none (by rw [List.length_map]; omega)]
  rw [e]
  have := hp.map pr
  rwa [pr_heads, pr_ents] at this
end Go.Proofs.Qxb6608761a
