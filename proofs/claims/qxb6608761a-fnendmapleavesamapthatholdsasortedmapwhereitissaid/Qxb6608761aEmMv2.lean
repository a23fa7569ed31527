import Derived.Test.Qxb6608761aEmMv
namespace Go.Proofs.Qxb6608761a
open Go.RowKit Go.Sort

structure Moved (base oB : Nat) (f : Nat → Nat) (p : Option Addr) (N start : Nat) (l : List Ent) (ov pv sv : Value) (ip : Int) (w w' : World) : Prop where
  os : w'.os = w.os
  tape : w'.tape = w.tape
  output : w'.output = w.output
  size : w.heap.size ≤ w'.heap.size
  box : ∃ sc, w'.heap[oB]? = some (.cells #[ov, pv, sv, .int .i64 ip, sc, .slice none 0 0, .slice none 0 0] 72 (0, 0))
  keep : ∀ b, b < w.heap.size → b ≠ oB → (∀ x, p = some x → b ≠ x.block) → w'.heap[b]? = w.heap[b]?
  body : BB w' base p N (mvF f start (catE f l))

/-- The world behind the filling of scratch. -/
structure Filled (oB : Nat) (f : Nat → Nat) (p : Option Addr) (n start : Nat) (ov pv sv : Value) (ip : Int) (q : Option Addr) (k : Nat) (w w2 : World) : Prop where
  os : w2.os = w.os
  tape : w2.tape = w.tape
  output : w2.output = w.output
  size : w.heap.size ≤ w2.heap.size
  box : w2.heap[oB]? = some (.cells #[ov, pv, sv, .int .i64 ip, .slice q (n - start) k, .slice none 0 0, .slice none 0 0] 72 (0, 0))
  keep : ∀ b, b < w.heap.size → b ≠ oB → w2.heap[b]? = w.heap[b]?
  rd : Rd w2 q (n - start) (fun i => f (start + i))
  le : n - start ≤ k
  nil : q = none → n - start = 0 ∧ k = 0
  new : ∀ x, q = some x → ∃ sb, x = ⟨sb, 0, none⟩ ∧ w.heap.size ≤ sb
theorem filled {oB n start : Nat} {f : Nat → Nat} {p q : Option Addr} {ov pv sv : Value} {ip : Int} {k : Nat} {w W1 : World} (hbox : w.heap[oB]? = some (.cells #[ov, pv, sv, .int .i64 ip, .slice none 0 0, .slice none 0 0, .slice none 0 0] 72 (0, 0)))
    (h : Scr w.drew W1 q (n - start) k (fun i => f (start + i))) : Filled oB f p n start ov pv sv ip q k w (W1.setCell ⟨oB, 4, none⟩ (.slice q (n - start) k)) := by
  have hlt := blk_lt hbox
  have hb : W1.heap[oB]? = _ := (h.below.block oB hlt).trans hbox
  have k1 : ∀ b, b ≠ oB → (W1.setCell ⟨oB, 4, none⟩ (.slice q (n - start) k)).heap[b]? = W1.heap[b]? := fun b hb => Below.heap_setCell W1 _ _ b hb
  refine ⟨h.below.os, h.below.tape, h.below.output, by have := h.below.size; simp [World.setCell]; exact this, ?_, fun b hb hn => ?_, fun i hi => ?_, h.le, h.nil, fun x hx => ?_⟩
  · rw [setCell_blk _ _ _ _ _ _ hb]; rfl
  · rw [k1 b hn]; exact h.below.block b hb
  · obtain ⟨x, hx, hc⟩ := h.rd i hi
    obtain ⟨sb, rfl, h1, h2⟩ := h.new x hx
    refine ⟨_, hx, ?_⟩
    rw [← hc]
    rw [Addr.add_lit]
    exact World.cell?_of_block (k1 sb (fun e => by subst e; have : w.heap.size ≤ sb := h1; omega))
  · obtain ⟨sb, h0, h1, h2⟩ := h.new x hx
    exact ⟨sb, h0, h1⟩
theorem Filled.done {base oB n start N : Nat} {f : Nat → Nat} {p q : Option Addr} {ov pv sv : Value} {ip : Int} {k : Nat} {l : List Ent} {w w2 w' : World} (h : Filled oB f p n start ov pv sv ip q k w w2) (hm : Mv base f p N start l l.length w2 w') (hob : oB < w.heap.size) (hne : ∀ x, p = some x → oB ≠ x.block) : Moved base oB f p N start l ov pv sv ip w w' := by
  refine ⟨hm.os.trans h.os, hm.tape.trans h.tape, hm.output.trans h.output, Nat.le_trans h.size hm.size, ⟨_, (hm.keep oB (Nat.lt_of_lt_of_le hob h.size) hne).trans h.box⟩, fun b hb h1 h2 => (hm.keep b (Nat.lt_of_lt_of_le hb h.size) h2).trans (h.keep b hb h1), ?_⟩
  have := hm.body
  rwa [List.take_length] at this
theorem Filled.start {base oB n start N : Nat} {f : Nat → Nat} {p q : Option Addr} {ov pv sv : Value} {ip : Int} {k : Nat} {l : List Ent} {w w2 : World} (h : Filled oB f p n start ov pv sv ip q k w w2) (hB : BB w base p N f) (hne : ∀ x, p = some x → oB ≠ x.block ∧ x.block < w.heap.size) : Mv base f p N start l 0 w2 w2 := by
  refine ⟨rfl, rfl, rfl, Nat.le_refl _, fun _ _ _ => rfl, ?_⟩
  rw [List.take_zero]
  rcases hB with hB | ⟨b, rfl, h1, h2⟩
  · exact .inl hB
  · refine .inr ⟨b, rfl, h1, ?_⟩
    rw [h.keep b (blk_lt h2) (fun e => (hne _ rfl).1 e.symm), h2]
    have e : rowB N (mvF f start (catE f [])) = rowB N f := rowB_congr fun i _ => mvF_nil f start i
    rw [e]
theorem copy0 (dp sp : Option Addr) (d c1 c2 : Nat) (w : World) : Sem.run Try.prog (Builtin.copy_ #[38, 38] 3 #[.slice dp d c1, .slice sp 0 c2]) w = .ok (.int .i64 0) w := run_copy_none (P := Try.prog) w 38 38 3 5 dp sp d c1 0 c2 Try.underlying38 (by kernel_rfl) (Nat.zero_min d)

set_option maxRecDepth 20000 in
set_option maxHeartbeats 6400000 in
theorem move_any (base oB g off cap N n start : Nat) (p : Option Addr) (f : Nat → Nat) (cur : Array Value) (l : List Ent) (ov pv sv : Value) (ip : Int) (w : World)
    (hbox : w.heap[oB]? = some (.cells #[ov, pv, sv, .int .i64 ip, .slice none 0 0, .slice none 0 0, .slice none 0 0] 72 (0, 0))) (hB : BB w base p N f) (hN : N ≤ 1048576) (hn : n ≤ N) (hst : start ≤ n)
    (hg : w.heap[g]? = some (.cells cur 77 (0, 0))) (hcur : ∀ j, j < l.length * 4 → cur[off + j]? = (flatE l)[j]?) (hl : l.length ≤ 65536) (hin : ∀ x ∈ l, start ≤ x.s ∧ x.s ≤ x.e ∧ x.e ≤ n) (hsum : start + (catE f l).length ≤ n) :
    Calls Try.prog 34 #[.pointer (some ⟨oB, 0, none⟩), .slice p n N, .int .i64 start, .slice (some ⟨g, off, none⟩) l.length cap] w fun r w' => r = .returned (.tuple #[]) ∧ Moved base oB f p N start l ov pv sv ip w w' := by
  have hob := blk_lt hbox
  have hgl := blk_lt hg
  have hog : g ≠ oB := fun e => by subst e; rw [hbox] at hg; cases hg
  have hpo : ∀ x, p = some x → oB ≠ x.block ∧ g ≠ x.block ∧ x.block < w.heap.size := fun x hx => by
    rcases hB with ⟨h1, _⟩ | ⟨b, h1, _, h3⟩
    · rw [h1] at hx; cases hx
    · rw [h1] at hx; cases hx
      exact ⟨(fun e => by rw [e] at hbox; rw [hbox] at h3; simp at h3), (fun e => by rw [e] at hg; rw [hg] at h3; simp at h3), blk_lt h3⟩
  have b4 : w.cell? ⟨oB, 4, none⟩ = some (.slice none 0 0) := cell_blk hbox 4
  have HSC : Hid (∀ sp, (0 < n - start → ∃ x, p = some x ∧ sp = some (x.add start)) → (sp = none → n - start = 0 ∧ N - start = 0) → ∃ q k W1, Sem.run Try.prog (Builtin.append_ #[38, 38] 38 #[.slice none 0 0, .slice sp (n - start) (N - start)]) w.drew = .ok (.slice q (n - start) k) W1 ∧ Scr w.drew W1 q (n - start) k (fun i => f (start + i))) := fun sp h1 h2 =>
    appendScr w.drew (n - start) sp (N - start) (fun i => f (start + i)) (fun i hi => by
      obtain ⟨x, hx, hsp⟩ := h1 (by omega)
      obtain ⟨y, hy, hcc⟩ := hB.rd (start + i) (by omega)
      rw [hx] at hy; cases hy
      refine ⟨_, hsp, ?_⟩
      show w.cell? _ = _
      rw [← hcc]
      congr 1
      rcases hB with ⟨hpp, _⟩ | ⟨b', hpp, _⟩
      · rw [hpp] at hx; cases hx
      · rw [hpp] at hx; cases hx; simp [Addr.add_lit]) h2 (by omega)
  have HD : Hid _ := @filled oB n start f p
  have HBX : Hid _ := And.intro hbox (And.intro hB (And.intro hg hpo))
  cases p with
  | none =>
    have hN0 : N = 0 := by rcases hB with ⟨_, h⟩ | ⟨b, h, _⟩; (exact h); (cases h)
    have HN0 : Hid _ := hN0
    obtain ⟨q, kc, W1, hr, hsc⟩ := HSC.out (none) (fun h => by omega) (fun _ => ⟨by omega, by omega⟩)
    have hfl : Filled oB f (none) n start ov pv sv ip q kc w _ := filled HBX.out.1 hsc
    have g4 : W1.cell? ⟨oB, 4, none⟩ = some (.slice none 0 0) := by
      rw [← b4]; exact World.cell?_of_block (hsc.below.block oB hob)
    have f4 : W1.frozen? ⟨oB, 4, none⟩ = false := free_blk ((hsc.below.block oB hob).trans hbox) 4
    obtain ⟨W2, hW2⟩ : ∃ W2, W2 = W1.setCell ⟨oB, 4, none⟩ (.slice q (n - start) kc) := ⟨_, rfl⟩
    rw [← hW2] at hfl
    have HF : Hid _ := hfl
    have HQ : Hid _ := hr
    have HW : Hid _ := hW2
    have HI : Hid _ := And.intro hin (And.intro hcur hsum)
    clear hN0 hr hsc hfl hW2 hbox hB hg hpo hin hcur hsum HSC HD

    go_enter Try.func34, Try.ntmps34
    go_wp2
    go_region_law (refine step_append_run rfl (.tmp 16) (.tmp 19) 38 38 rfl _ _ _ (by simp [Act.eval, Act.put]) (by simp [Act.eval, Act.put]) HQ.out ?_)
    go_wp2
    all_goals clear b4 g4 f4
    go_loopw [8, 10, 26] (fun at_ _ i wr => ∃ k : Nat, k ≤ l.length ∧ i = .int .i64 k ∧ at_ = .int .i64 ((start + (catE f (l.take k)).length : Nat) : Int) ∧ Mv base f (none) N start l k W2 wr) (fun _ _ i _ => l.length - (intOf i).toNat)
    case atStart => exact ⟨0, Nat.zero_le _, rfl, by simp [catE], by (first | rw [← HW.out] | (have e := HW.out; rw [Nat.sub_self] at e; rw [← e])); exact HF.out.start HBX.out.2.1 (fun x hx => ⟨(HBX.out.2.2.2 x hx).1, (HBX.out.2.2.2 x hx).2.2⟩)⟩
    case round =>
      obtain ⟨k, hk, rfl, rfl, hM⟩ := hrel
      by_cases hlt : k < l.length
      · obtain ⟨⟨S, E, pd, hh⟩, hx⟩ : ∃ x, l[k]? = some x := ⟨_, List.getElem?_eq_getElem hlt⟩
        obtain ⟨hin, hcur, hsum⟩ := HI.out
        have tr : ∀ j v, cur[j]? = some v → wr.cell? ⟨g, j, none⟩ = some v := fun j v hv => hM.cell (by rw [← hv, ← cell_blk HBX.out.2.2.1]; exact World.cell?_of_block (HF.out.keep g hgl hog)) (fun y hy => (HBX.out.2.2.2 y hy).2.1)
        have c0 : wr.cell? ⟨g, off + k * 4, none⟩ = some (.int .i64 (S : Int)) := tr _ _ (by rw [hcur _ (by omega), Nat.mul_comm]; exact flatE_get _ k 0 _ hx (by omega))
        have c1 : wr.cell? ⟨g, off + k * 4 + 1, none⟩ = some (.int .i64 (E : Int)) := tr _ _ (by rw [Nat.add_assoc, hcur _ (by omega), Nat.mul_comm]; exact flatE_get _ k 1 _ hx (by omega))
        have c2 : wr.cell? ⟨g, off + k * 4 + 2, none⟩ = some (.int .i64 (pd : Int)) := tr _ _ (by rw [Nat.add_assoc, hcur _ (by omega), Nat.mul_comm]; exact flatE_get _ k 2 _ hx (by omega))
        have c3 : wr.cell? ⟨g, off + k * 4 + 3, none⟩ = some (.int .u64 (hh : Int)) := tr _ _ (by rw [Nat.add_assoc, hcur _ (by omega), Nat.mul_comm]; exact flatE_get _ k 3 _ hx (by omega))
        have o4 : wr.cell? ⟨oB, 4, none⟩ = some (.slice q (n - start) kc) := hM.cell (cell_blk HF.out.box 4) (fun y hy => (HBX.out.2.2.2 y hy).1)
        obtain ⟨i1, i2, i3⟩ : start ≤ S ∧ S ≤ E ∧ E ≤ n := hin _ (List.mem_of_getElem? hx)
        have hsz : start + (catE f (l.take k)).length + (E - S) ≤ n := by
          have h1 := catE_le f l (k + 1)
          rw [catE_take f l k _ hx, List.length_append, seg_length] at h1
          simp only at h1
          omega
        obtain ⟨A, hA⟩ : ∃ A, A = start + (catE f (l.take k)).length := ⟨_, rfl⟩
        have HA : Hid (start + (catE f (l.take (k + 1))).length = A + (E - S)) := show _ = _ by rw [catE_take f l k _ hx, List.length_append, seg_length, hA]; simp only; omega
        rw [← hA] at hsz ⊢
        have HM : Hid _ := hM
        have hle := HF.out.le
        have HHA : Hid _ := hA
        clear hM hin hcur hsum tr hA
        have ob2 : oB < wr.heap.size := World.block_lt_of_cell? _ _ o4
        by_cases he : S = E
        · obtain rfl := he
          have HM2 : Hid _ := ((HM.out.skip _ hx rfl).grow (.cells #[.int .i64 (S : Int), .int .i64 (S : Int), .int .i64 (pd : Int), .int .u64 (hh : Int)] 77))
          have HA2 : Hid (start + (catE f (l.take (k + 1))).length = A) := show _ = _ by rw [HA.out]; omega
          have hc0 := copy0
          clear HA HM
          go_wp2
          go_region
          all_goals go_wp2
          all_goals go_roundw
          all_goals first | exact ⟨k + 1, hlt, by go_num, by rw [HA2.out], HM2.out⟩ | (simp [intOf]; omega)
        · exfalso; have := HN0.out; omega
      · obtain rfl : k = l.length := by omega
        have HM : Hid _ := hM
        clear hM
        go_wp2
        go_end0
        exact ⟨rfl, HF.out.done HM.out hob (fun x hx => (HBX.out.2.2.2 x hx).1)⟩
  | some x =>
    obtain ⟨b, rfl⟩ : ∃ b, x = ⟨b, 0, none⟩ := by rcases hB with ⟨h, _⟩ | ⟨b, h, _⟩; (cases h); (cases h; exact ⟨b, rfl⟩)
    by_cases hns : N = start
    · obtain rfl := hns.symm
      obtain rfl : start = n := by omega
      obtain ⟨q, kc, W1, hr, hsc⟩ := HSC.out (some ⟨b, 0, none⟩) (fun h => by omega) (fun h => by cases h)
      have hfl : Filled oB f (some ⟨b, 0, none⟩) start start ov pv sv ip q kc w _ := filled HBX.out.1 hsc
      have g4 : W1.cell? ⟨oB, 4, none⟩ = some (.slice none 0 0) := by
        rw [← b4]; exact World.cell?_of_block (hsc.below.block oB hob)
      have f4 : W1.frozen? ⟨oB, 4, none⟩ = false := free_blk ((hsc.below.block oB hob).trans hbox) 4
      obtain ⟨W2, hW2⟩ : ∃ W2, W2 = W1.setCell ⟨oB, 4, none⟩ (.slice q (start - start) kc) := ⟨_, rfl⟩
      rw [← hW2] at hfl
      have HF : Hid _ := hfl
      have HQ : Hid _ := hr
      have HW : Hid _ := hW2
      have HI : Hid _ := And.intro hin (And.intro hcur hsum)
      clear hr hsc hfl hW2 hbox hB hg hpo hin hcur hsum HSC HD

      go_enter Try.func34, Try.ntmps34
      go_wp2
      go_region_law (refine step_append_run rfl (.tmp 16) (.tmp 19) 38 38 rfl _ _ _ (by simp [Act.eval, Act.put]) (by simp [Act.eval, Act.put]) HQ.out ?_)
      go_wp2
      all_goals clear b4 g4 f4
      go_loopw [8, 10, 26] (fun at_ _ i wr => ∃ k : Nat, k ≤ l.length ∧ i = .int .i64 k ∧ at_ = .int .i64 ((start + (catE f (l.take k)).length : Nat) : Int) ∧ Mv base f (some ⟨b, 0, none⟩) start start l k W2 wr) (fun _ _ i _ => l.length - (intOf i).toNat)
      case atStart => exact ⟨0, Nat.zero_le _, rfl, by simp [catE], by (first | rw [← HW.out] | (have e := HW.out; rw [Nat.sub_self] at e; rw [← e])); exact HF.out.start HBX.out.2.1 (fun x hx => ⟨(HBX.out.2.2.2 x hx).1, (HBX.out.2.2.2 x hx).2.2⟩)⟩
      case round =>
        obtain ⟨k, hk, rfl, rfl, hM⟩ := hrel
        by_cases hlt : k < l.length
        · obtain ⟨⟨S, E, pd, hh⟩, hx⟩ : ∃ x, l[k]? = some x := ⟨_, List.getElem?_eq_getElem hlt⟩
          obtain ⟨hin, hcur, hsum⟩ := HI.out
          have tr : ∀ j v, cur[j]? = some v → wr.cell? ⟨g, j, none⟩ = some v := fun j v hv => hM.cell (by rw [← hv, ← cell_blk HBX.out.2.2.1]; exact World.cell?_of_block (HF.out.keep g hgl hog)) (fun y hy => (HBX.out.2.2.2 y hy).2.1)
          have c0 : wr.cell? ⟨g, off + k * 4, none⟩ = some (.int .i64 (S : Int)) := tr _ _ (by rw [hcur _ (by omega), Nat.mul_comm]; exact flatE_get _ k 0 _ hx (by omega))
          have c1 : wr.cell? ⟨g, off + k * 4 + 1, none⟩ = some (.int .i64 (E : Int)) := tr _ _ (by rw [Nat.add_assoc, hcur _ (by omega), Nat.mul_comm]; exact flatE_get _ k 1 _ hx (by omega))
          have c2 : wr.cell? ⟨g, off + k * 4 + 2, none⟩ = some (.int .i64 (pd : Int)) := tr _ _ (by rw [Nat.add_assoc, hcur _ (by omega), Nat.mul_comm]; exact flatE_get _ k 2 _ hx (by omega))
          have c3 : wr.cell? ⟨g, off + k * 4 + 3, none⟩ = some (.int .u64 (hh : Int)) := tr _ _ (by rw [Nat.add_assoc, hcur _ (by omega), Nat.mul_comm]; exact flatE_get _ k 3 _ hx (by omega))
          have o4 : wr.cell? ⟨oB, 4, none⟩ = some (.slice q (start - start) kc) := hM.cell (cell_blk HF.out.box 4) (fun y hy => (HBX.out.2.2.2 y hy).1)
          obtain ⟨i1, i2, i3⟩ : start ≤ S ∧ S ≤ E ∧ E ≤ start := hin _ (List.mem_of_getElem? hx)
          have hsz : start + (catE f (l.take k)).length + (E - S) ≤ start := by
            have h1 := catE_le f l (k + 1)
            rw [catE_take f l k _ hx, List.length_append, seg_length] at h1
            simp only at h1
            omega
          obtain ⟨A, hA⟩ : ∃ A, A = start + (catE f (l.take k)).length := ⟨_, rfl⟩
          have HA : Hid (start + (catE f (l.take (k + 1))).length = A + (E - S)) := show _ = _ by rw [catE_take f l k _ hx, List.length_append, seg_length, hA]; simp only; omega
          rw [← hA] at hsz ⊢
          have HM : Hid _ := hM
          have hle := HF.out.le
          have HHA : Hid _ := hA
          clear hM hin hcur hsum tr hA
          have ob2 : oB < wr.heap.size := World.block_lt_of_cell? _ _ o4
          by_cases he : S = E
          · obtain rfl := he
            have HM2 : Hid _ := ((HM.out.skip _ hx rfl).grow (.cells #[.int .i64 (S : Int), .int .i64 (S : Int), .int .i64 (pd : Int), .int .u64 (hh : Int)] 77))
            have HA2 : Hid (start + (catE f (l.take (k + 1))).length = A) := show _ = _ by rw [HA.out]; omega
            have hc0 := copy0
            clear HA HM
            go_wp2
            go_region
            all_goals go_wp2
            all_goals go_roundw
            all_goals first | exact ⟨k + 1, hlt, by go_num, by rw [HA2.out], HM2.out⟩ | (simp [intOf]; omega)
          · exfalso; omega
        · obtain rfl : k = l.length := by omega
          have HM : Hid _ := hM
          clear hM
          go_wp2
          go_end0
          exact ⟨rfl, HF.out.done HM.out hob (fun x hx => (HBX.out.2.2.2 x hx).1)⟩

    · obtain ⟨q, kc, W1, hr, hsc⟩ := HSC.out (some ⟨b, start, none⟩) (fun h => ⟨_, rfl, by simp [Addr.add_lit]⟩) (fun h => by cases h)
      have hfl : Filled oB f (some ⟨b, 0, none⟩) n start ov pv sv ip q kc w _ := filled HBX.out.1 hsc
      have g4 : W1.cell? ⟨oB, 4, none⟩ = some (.slice none 0 0) := by
        rw [← b4]; exact World.cell?_of_block (hsc.below.block oB hob)
      have f4 : W1.frozen? ⟨oB, 4, none⟩ = false := free_blk ((hsc.below.block oB hob).trans hbox) 4
      obtain ⟨W2, hW2⟩ : ∃ W2, W2 = W1.setCell ⟨oB, 4, none⟩ (.slice q (n - start) kc) := ⟨_, rfl⟩
      rw [← hW2] at hfl
      have HF : Hid _ := hfl
      have HQ : Hid _ := hr
      have HW : Hid _ := hW2
      have HI : Hid _ := And.intro hin (And.intro hcur hsum)
      clear hr hsc hfl hW2 hbox hB hg hpo hin hcur hsum HSC HD

      go_enter Try.func34, Try.ntmps34
      go_wp2
      go_region_law (refine step_append_run rfl (.tmp 16) (.tmp 19) 38 38 rfl _ _ _ (by simp [Act.eval, Act.put]) (by simp [Act.eval, Act.put]) HQ.out ?_)
      go_wp2
      all_goals clear b4 g4 f4
      go_loopw [8, 10, 26] (fun at_ _ i wr => ∃ k : Nat, k ≤ l.length ∧ i = .int .i64 k ∧ at_ = .int .i64 ((start + (catE f (l.take k)).length : Nat) : Int) ∧ Mv base f (some ⟨b, 0, none⟩) N start l k W2 wr) (fun _ _ i _ => l.length - (intOf i).toNat)
      case atStart => exact ⟨0, Nat.zero_le _, rfl, by simp [catE], by (first | rw [← HW.out] | (have e := HW.out; rw [Nat.sub_self] at e; rw [← e])); exact HF.out.start HBX.out.2.1 (fun x hx => ⟨(HBX.out.2.2.2 x hx).1, (HBX.out.2.2.2 x hx).2.2⟩)⟩
      case round =>
        obtain ⟨k, hk, rfl, rfl, hM⟩ := hrel
        by_cases hlt : k < l.length
        · obtain ⟨⟨S, E, pd, hh⟩, hx⟩ : ∃ x, l[k]? = some x := ⟨_, List.getElem?_eq_getElem hlt⟩
          obtain ⟨hin, hcur, hsum⟩ := HI.out
          have tr : ∀ j v, cur[j]? = some v → wr.cell? ⟨g, j, none⟩ = some v := fun j v hv => hM.cell (by rw [← hv, ← cell_blk HBX.out.2.2.1]; exact World.cell?_of_block (HF.out.keep g hgl hog)) (fun y hy => (HBX.out.2.2.2 y hy).2.1)
          have c0 : wr.cell? ⟨g, off + k * 4, none⟩ = some (.int .i64 (S : Int)) := tr _ _ (by rw [hcur _ (by omega), Nat.mul_comm]; exact flatE_get _ k 0 _ hx (by omega))
          have c1 : wr.cell? ⟨g, off + k * 4 + 1, none⟩ = some (.int .i64 (E : Int)) := tr _ _ (by rw [Nat.add_assoc, hcur _ (by omega), Nat.mul_comm]; exact flatE_get _ k 1 _ hx (by omega))
          have c2 : wr.cell? ⟨g, off + k * 4 + 2, none⟩ = some (.int .i64 (pd : Int)) := tr _ _ (by rw [Nat.add_assoc, hcur _ (by omega), Nat.mul_comm]; exact flatE_get _ k 2 _ hx (by omega))
          have c3 : wr.cell? ⟨g, off + k * 4 + 3, none⟩ = some (.int .u64 (hh : Int)) := tr _ _ (by rw [Nat.add_assoc, hcur _ (by omega), Nat.mul_comm]; exact flatE_get _ k 3 _ hx (by omega))
          have o4 : wr.cell? ⟨oB, 4, none⟩ = some (.slice q (n - start) kc) := hM.cell (cell_blk HF.out.box 4) (fun y hy => (HBX.out.2.2.2 y hy).1)
          obtain ⟨i1, i2, i3⟩ : start ≤ S ∧ S ≤ E ∧ E ≤ n := hin _ (List.mem_of_getElem? hx)
          have hsz : start + (catE f (l.take k)).length + (E - S) ≤ n := by
            have h1 := catE_le f l (k + 1)
            rw [catE_take f l k _ hx, List.length_append, seg_length] at h1
            simp only at h1
            omega
          obtain ⟨A, hA⟩ : ∃ A, A = start + (catE f (l.take k)).length := ⟨_, rfl⟩
          have HA : Hid (start + (catE f (l.take (k + 1))).length = A + (E - S)) := show _ = _ by rw [catE_take f l k _ hx, List.length_append, seg_length, hA]; simp only; omega
          rw [← hA] at hsz ⊢
          have HM : Hid _ := hM
          have hle := HF.out.le
          have HHA : Hid _ := hA
          clear hM hin hcur hsum tr hA
          have ob2 : oB < wr.heap.size := World.block_lt_of_cell? _ _ o4
          by_cases he : S = E
          · obtain rfl := he
            have HM2 : Hid _ := ((HM.out.skip _ hx rfl).grow (.cells #[.int .i64 (S : Int), .int .i64 (S : Int), .int .i64 (pd : Int), .int .u64 (hh : Int)] 77))
            have HA2 : Hid (start + (catE f (l.take (k + 1))).length = A) := show _ = _ by rw [HA.out]; omega
            have hc0 := copy0
            clear HA HM
            go_wp2
            go_region
            all_goals go_wp2
            all_goals go_roundw
            all_goals first | exact ⟨k + 1, hlt, by go_num, by rw [HA2.out], HM2.out⟩ | (simp [intOf]; omega)
          · have hSE : S < E := by omega
            obtain ⟨y, hq, _⟩ := HF.out.rd 0 (by omega)
            obtain ⟨sb, rfl, hsb⟩ := HF.out.new y hq
            subst hq
            have HX : Hid (∃ W3, Sem.run Try.prog (Builtin.copy_ #[38, 38] 3 #[.slice (some ⟨b, A, none⟩) (n - A) (N - A), .slice (some ⟨sb, S - start, none⟩) (E - start - (S - start)) (kc - (S - start))]) (wr.alloc (.cells #[.int .i64 (S : Int), .int .i64 (E : Int), .int .i64 (pd : Int), .int .u64 (hh : Int)] 77)).drew = .ok (.int .i64 ((E - S : Nat) : Int)) W3 ∧ Mv base f (some ⟨b, 0, none⟩) N start l (k + 1) W2 W3) := by
              have hG := HM.out.grow (.cells #[.int .i64 (S : Int), .int .i64 (E : Int), .int .i64 (pd : Int), .int .u64 (hh : Int)] 77)
              have hM3 := hG.copy _ hx
              rw [← HHA.out] at hM3
              refine ⟨_, copyB _ b N A (E - S) (mvF f start (catE f (l.take k))) (fun i => f (S + i)) _ _ _ _ _ _ 3 ?_ ?_ (by omega) (fun _ => rfl) (fun i hi => ⟨_, rfl, ?_⟩), hM3⟩
              · rcases hG.body with ⟨h, _⟩ | ⟨b', h, _, h3⟩
                · cases h
                · cases h; exact h3
              · show min _ _ = _; omega
              · obtain ⟨z, hz, hzc⟩ := HF.out.rd (S - start + i) (by omega)
                cases hz
                rw [Addr.add_lit] at hzc ⊢
                rw [Nat.zero_add] at hzc
                rw [hG.cell hzc (fun v hv => by cases hv; have h9 := (HBX.out.2.2.2 _ rfl).2.2; simp only at h9; simp only; omega)]
                show some (Value.int .u8 ((f (start + (S - start + i)) : Nat) : Int)) = _
                rw [show start + (S - start + i) = S + i by omega]
            obtain ⟨W3, hr3, hm3⟩ := HX.out
            have HM3 : Hid _ := hm3
            have n1 : ¬ N = A := by omega
            have n2 : ¬ kc = S - start := by omega
            clear HX hm3 HM
            go_wp2
            go_region
            all_goals go_wp2
            all_goals go_roundw
            all_goals first | exact ⟨k + 1, hlt, by go_num, by rw [HA.out]; go_num, HM3.out⟩ | (simp [intOf]; omega)
        · obtain rfl : k = l.length := by omega
          have HM : Hid _ := hM
          clear hM
          go_wp2
          go_end0
          exact ⟨rfl, HF.out.done HM.out hob (fun x hx => (HBX.out.2.2.2 x hx).1)⟩

end Go.Proofs.Qxb6608761a
