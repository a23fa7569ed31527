import Derived.Test.Qxb6608761aEmKw
namespace Go.Proofs.Qxb6608761a
open Go.RowKit Go.Sort

theorem Inner.of {base oB : Nat} {f : Nat → Nat} {p : Option Addr} {N start : Nat} {lo li l' : List Ent} {a : Nat} {ip : Int} {sv : Value} {w W w' : World} (h : Inner base oB f p N start lo li l' a ip sv W w') (hb : Below w.heap.size w W) (hs : base ≤ w.heap.size) : Inner base oB f p N start lo li l' a ip sv w w' :=
  ⟨h.perm, h.order, h.mo, h.body, (Fr.below hb hs).trans h.fr⟩
theorem Outer.of {base oB : Nat} {f : Nat → Nat} {N : Nat} {lo l' : List Ent} {a : Nat} {ip : Int} {w W w' : World} (h : Outer base oB f N lo l' a ip W w') (hb : Below w.heap.size w W) (hs : base ≤ w.heap.size) : Outer base oB f N lo l' a ip w w' :=
  ⟨h.perm, h.order, (Fr.below hb hs).trans h.fr, h.o0, h.o1, h.o2, h.o3⟩
theorem below_of {w W : World} (h : Below w.drew.heap.size w.drew W) : Below w.heap.size w W := ⟨h.os, h.tape, h.output, h.size, h.block⟩
theorem below_ofN {w W : World} {n : Nat} (h : Below (w.drewN n).heap.size (w.drewN n) W) : Below w.heap.size w W := ⟨h.os, h.tape, h.output, h.size, h.block⟩

theorem catE_lt {f : Nat → Nat} {N : Nat} {l : List Ent} (hf : ∀ i, i < N → f i < 256) (hl : ∀ x ∈ l, x.e ≤ N) : ∀ c ∈ catE f l, c < 256 := fun c hc => by
  rw [catE, List.mem_flatMap] at hc
  obtain ⟨x, hx, hcx⟩ := hc
  obtain ⟨i, _, h2, rfl⟩ := seg_mem hcx
  exact hf i (by have := hl x hx; omega)
theorem mvF_lt {f : Nat → Nat} {N start : Nat} {l : List Ent} (hf : ∀ i, i < N → f i < 256) (hl : ∀ x ∈ l, x.e ≤ N) : ∀ i, i < N → mvF f start (catE f l) i < 256 := fun i hi => by
  unfold mvF
  split
  · next h =>
    rw [List.getD_eq_getElem?_getD, List.getElem?_eq_getElem (by omega)]
    exact catE_lt hf hl _ (List.getElem_mem _)
  · exact hf i hi
theorem mem_of_perm_heads {f : Nat → Nat} {S : Nat → Nat × Nat} {pd m : Nat} {l' : List Ent} (hp : l'.Perm (heads f (entsOf S pd 0 m).length (entsOf S pd 0 m))) {x : Ent} (hx : x ∈ l') : ∃ j, j < m ∧ x.s = (S j).1 ∧ x.e = (S j).2 := by
  obtain ⟨y, hy, e1, e2, _⟩ := heads_mem (hp.mem_iff.1 hx)
  obtain ⟨j, _, h2, rfl⟩ := entsOf_mem hy
  exact ⟨j, h2, e1, e2⟩
theorem wrap_ne (ip : Int) : ¬ wrap64 (ip + 1) = ip := by
  intro e
  unfold wrap64 at e
  omega

/-- The body behind the inner EndMap is what the law builds of the original. -/
theorem mvF_cat {f : Nat → Nat} {S T : Nat → Nat × Nat} {pd m : Nat} {l' : List Ent} (hp : l'.Perm (heads f (entsOf S pd 0 m).length (entsOf S pd 0 m))) (ho : l'.Pairwise (fun x y => cfE f x y ≤ 0))
    (hT : (seg T 0 m).Perm (seg S 0 m)) (hs : (seg T 0 m).Pairwise (fun x z => leS f true x z = true)) : catE f l' = cat f T m := by
  rw [catE_keys, keys_eq hp ho hT hs, ← cat_keys]

/-- The copy of the law, as a run: newBody[start:E] gets the sorted row. -/
theorem copyN (w : World) (base : Nat) (p : Option Addr) (N start E : Nat) (f : Nat → Nat) (L : List Nat) (dp : Option Addr) (gc c : Nat) (hB : BB w base p N f) (hE : E ≤ N) (hL : start + L.length = E) (hd : 0 < L.length → ∃ x, p = some x ∧ dp = some (x.add start))
    (hs : Rd w (some ⟨gc, 0, none⟩) L.length (fun i => L.getD i 0)) :
    ∃ W', Sem.run Try.prog (Builtin.copy_ #[38, 38] 3 #[.slice dp (E - start) (N - start), .slice (some ⟨gc, 0, none⟩) L.length c]) w = .ok (.int .i64 (L.length : Int)) W' ∧ BB W' base p N (mvF f start L) ∧ W'.os = w.os ∧ W'.tape = w.tape ∧ W'.output = w.output ∧ W'.heap.size = w.heap.size ∧ ∀ b, (∀ x, p = some x → b ≠ x.block) → W'.heap[b]? = w.heap[b]? := by
  rcases hB with ⟨rfl, rfl⟩ | ⟨b, rfl, h1, h2⟩
  · have h0 : L.length = 0 := by omega
    refine ⟨w, ?_, .inl ⟨rfl, rfl⟩, rfl, rfl, rfl, rfl, fun _ _ => rfl⟩
    rw [h0]
    exact run_copy_none (P := Try.prog) w 38 38 3 5 dp _ _ _ 0 c Try.underlying38 (by kernel_rfl) (Nat.zero_min _)
  · have h := copyB w b N start L.length f (fun i => L.getD i 0) dp (some ⟨gc, 0, none⟩) (E - start) (N - start) L.length c 3 h2 (by show min _ _ = _; omega) (by omega)
      (fun h => by obtain ⟨x, hx, hdp⟩ := hd h; cases hx; rw [hdp, Addr.add_lit, Nat.zero_add]) (fun i hi => hs i hi)
    refine ⟨_, h, .inr ⟨b, rfl, h1, ?_⟩, rfl, rfl, rfl, by simp [World.setRow], fun k hk => setRow_other w b k _ (hk _ rfl)⟩
    rw [setRow_heap w b _ _ 5 _ h2]
    rfl
end Go.Proofs.Qxb6608761a
