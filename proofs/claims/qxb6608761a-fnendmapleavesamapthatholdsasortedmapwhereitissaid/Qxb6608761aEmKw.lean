import Derived.Test.Qxb6608761aEmFin
namespace Go.Proofs.Qxb6608761a
open Go.RowKit Go.Sort

theorem RdZ.below {w w' : World} {b o m : Nat} {Z : Nat → Int × Int} (h : RdZ w b o m Z) (hb : Below w.heap.size w w') : RdZ w' b o m Z := fun i hi =>
  ⟨(hb.cell (World.block_lt_of_cell? _ _ (h i hi).1)).trans (h i hi).1, (hb.cell (World.block_lt_of_cell? _ _ (h i hi).2)).trans (h i hi).2⟩
def RdN (w : World) (b o m : Nat) (S : Nat → Nat × Nat) : Prop := ∀ i, i < m → w.cell? ⟨b, o + i * 2, none⟩ = some (.int .i64 ((S i).1 : Int)) ∧ w.cell? ⟨b, o + i * 2 + 1, none⟩ = some (.int .i64 ((S i).2 : Int))
theorem RdN.of {w : World} {b o m : Nat} {Z : Nat → Int × Int} {e : Int} (h : RdZ w b o m Z) (hB : Back Z m e) : RdN w b o m (fun i => ((Z i).1.toNat, (Z i).2.toNat)) := fun i hi => by
  have := hB.fst i hi
  obtain ⟨h1, h2⟩ := h i hi
  rw [h1, h2]
  simp only
  exact ⟨by rw [show (((Z i).1.toNat : Nat) : Int) = (Z i).1 by omega], by rw [show (((Z i).2.toNat : Nat) : Int) = (Z i).2 by omega]⟩
theorem RdN.below {w w' : World} {b o m : Nat} {S : Nat → Nat × Nat} (h : RdN w b o m S) (hb : Below w.heap.size w w') : RdN w' b o m S := fun i hi =>
  ⟨(hb.cell (World.block_lt_of_cell? _ _ (h i hi).1)).trans (h i hi).1, (hb.cell (World.block_lt_of_cell? _ _ (h i hi).2)).trans (h i hi).2⟩
theorem RdN.toS {w : World} {b o m : Nat} {S : Nat → Nat × Nat} (h : RdN w b o m S) : RdS w ⟨b, o, none⟩ m S := fun j hj => by
  rw [Addr.add_lit]
  obtain ⟨h1, h2⟩ := h (j / 2) (by omega)
  rcases Nat.mod_two_eq_zero_or_one j with e | e
  · have e2 : j = 2 * (j / 2) := by omega
    rw [e2, cellS_even, ← e2, ← h1]
    congr 2; omega
  · have e2 : j = 2 * (j / 2) + 1 := by omega
    rw [e2, cellS_odd, ← e2, ← h2]
    congr 2; omega

theorem Mo.mono {base base' oB : Nat} {lo : List Ent} {np : Nat} {xs : List Value} {ip : Int} {ov pv sv sc : Value} {w : World} (h : Mo base oB lo np xs ip ov pv sv sc w) (hb : base' ≤ base) : Mo base' oB lo np xs ip ov pv sv sc w := by
  have mono : ∀ {e : TypeId} {size : Nat} {v : Value} {n : Nat} {xs : List Value}, w.ownsRow base e size v n xs → w.ownsRow base' e size v n xs := fun h => ⟨h.1, by
    rcases h.2 with h | ⟨g, cap, cur, h1, h2, h3⟩
    · exact .inl h
    · exact .inr ⟨g, cap, cur, h1, by omega, h3⟩⟩
  exact ⟨Nat.le_trans hb h.lt, h.box, mono h.own, mono h.pend⟩
theorem BB.mono {w : World} {base base' : Nat} {p : Option Addr} {n : Nat} {f : Nat → Nat} (h : BB w base p n f) (hb : base' ≤ base) : BB w base' p n f := by
  rcases h with h | ⟨b, h1, h2, h3⟩
  · exact .inl h
  · exact .inr ⟨b, h1, by omega, h3⟩
theorem BB.congr {w : World} {base : Nat} {p : Option Addr} {n : Nat} {f g : Nat → Nat} (h : BB w base p n f) (hfg : ∀ i, i < n → f i = g i) : BB w base p n g := by
  rcases h with h | ⟨b, h1, h2, h3⟩
  · exact .inl h
  · exact .inr ⟨b, h1, h2, by rw [← rowB_congr hfg]; exact h3⟩

/-- What the law keeps while the MapOrder is filled: the arguments, its copy of the body (g now), the original (f). -/
structure Kw (w1 : World) (p1 p2 : Option Addr) (N : Nat) (f g : Nat → Nat) (wr : World) : Prop where
  low : Below w1.heap.size w1 wr
  body : BB wr w1.heap.size p1 N g
  orig : BB wr w1.heap.size p2 N f
  apart : ∀ x y, p1 = some x → p2 = some y → y.block ≠ x.block
theorem Kw.fr {w1 : World} {p1 p2 : Option Addr} {N : Nat} {f g : Nat → Nat} {wr w' : World} (h : Kw w1 p1 p2 N f g wr) (hf : Fr w1.heap.size (fun _ => False) wr w') : Kw w1 p1 p2 N f g w' :=
  ⟨h.low.trans hf.toBelow, h.body.fr hf (fun _ _ h => h), h.orig.fr hf (fun _ _ h => h), h.apart⟩
theorem Kw.below {w1 : World} {p1 p2 : Option Addr} {N : Nat} {f g : Nat → Nat} {wr w' : World} (h : Kw w1 p1 p2 N f g wr) (hf : Below wr.heap.size wr w') : Kw w1 p1 p2 N f g w' :=
  ⟨h.low.trans (hf.mono h.low.size), h.body.below hf, h.orig.below hf, h.apart⟩
theorem Kw.inner {w1 : World} {p1 p2 : Option Addr} {N : Nat} {f g g' : Nat → Nat} {wr w' : World} (h : Kw w1 p1 p2 N f g wr) (hf : Fr w1.heap.size (fun b => ∃ x, p1 = some x ∧ b = x.block) wr w') (hb : BB w' w1.heap.size p1 N g') : Kw w1 p1 p2 N f g' w' :=
  ⟨h.low.trans hf.toBelow, hb, h.orig.fr hf (fun y hy ⟨x, hx, e⟩ => h.apart x y hx hy e), h.apart⟩
end Go.Proofs.Qxb6608761a
