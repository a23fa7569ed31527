import Derived.Test.Qxb6613595aFmtOrOwn0
import Derived.Stop.FmtTextKit
import Derived.Stop.FmtTextVerbs
import Derived.Stop.Texts
import Derived.Stop.Told
namespace Go.Proofs.Qxb6613595aFmt
open Go.RowKit Go.Maps Go.Extern.Stop Go.Stop Go.Extern
set_option linter.unusedVariables false

theorem tf0 : (FmtText.parse [116, 104, 101, 32, 118, 101, 99, 116, 111, 114, 32, 104, 97, 115, 32, 110, 111, 32, 101, 110, 116, 114, 121, 32, 102, 111, 114, 32, 105, 116, 115, 32, 111, 119, 110, 32, 104, 111, 115, 116, 32, 37, 113]).map FmtText.glue = some [.lit [116, 104, 101, 32, 118, 101, 99, 116, 111, 114, 32, 104, 97, 115, 32, 110, 111, 32, 101, 110, 116, 114, 121, 32, 102, 111, 114, 32, 105, 116, 115, 32, 111, 119, 110, 32, 104, 111, 115, 116, 32], .verb {} 113] := by rfl
theorem tf1 : (FmtText.parse [104, 111, 115, 116, 32, 37, 113, 32, 104, 97, 115, 32, 97, 110, 111, 116, 104, 101, 114, 32, 101, 118, 101, 110, 116, 32, 119, 105, 116, 104, 32, 111, 119, 110, 32, 101, 110, 116, 114, 121, 32, 37, 100, 44, 32, 97, 116, 32, 37, 115]).map FmtText.glue = some [.lit [104, 111, 115, 116, 32], .verb {} 113, .lit [32, 104, 97, 115, 32, 97, 110, 111, 116, 104, 101, 114, 32, 101, 118, 101, 110, 116, 32, 119, 105, 116, 104, 32, 111, 119, 110, 32, 101, 110, 116, 114, 121, 32], .verb {} 100, .lit [44, 32, 97, 116, 32], .verb {} 115] := by rfl
theorem tf2 : (FmtText.parse [108, 105, 110, 101, 32, 37, 100, 32, 111, 102, 32, 37, 115]).map FmtText.glue = some [.lit [108, 105, 110, 101, 32], .verb {} 100, .lit [32, 111, 102, 32], .verb {} 115] := by rfl
theorem tf3 : (FmtText.parse [108, 105, 110, 101, 32, 37, 100]).map FmtText.glue = some [.lit [108, 105, 110, 101, 32], .verb {} 100] := by rfl

theorem hexDigits_len (r : Nat) : ∀ n, (FmtText.hexDigits r n).length = n
  | 0 => rfl
  | n + 1 => by simp [FmtText.hexDigits, hexDigits_len r n]
theorem ite_len {c : Prop} [Decidable c] {a b : List UInt8} {n : Nat} (ha : a.length ≤ n) (hb : b.length ≤ n) : (if c then a else b).length ≤ n := by
  split
  · exact ha
  · exact hb
theorem ite_siz {c : Prop} [Decidable c] {a b : ByteArray} {n : Nat} (ha : a.data.toList.length ≤ n) (hb : b.data.toList.length ≤ n) : (if c then a else b).data.toList.length ≤ n := by
  split
  · exact ha
  · exact hb
theorem encode_len (r : Int) : (Utf8.encode r).data.toList.length ≤ 4 := by
  unfold Utf8.encode
  simp only
  generalize (if Utf8.valid r then r.toNat else Utf8.runeError) = c
  refine ite_siz ?_ (ite_siz ?_ (ite_siz ?_ ?_)) <;> simp only [List.length_cons, List.length_nil] <;> omega
theorem escRune_len (q : Nat) (a : Bool) (r : Nat) : (FmtText.escRune q a r).length ≤ 10 := by
  unfold FmtText.escRune
  have h := encode_len r
  refine ite_len ?_ (ite_len ?_ (ite_len ?_ (ite_len ?_ (ite_len ?_ (ite_len ?_ (ite_len ?_ (ite_len ?_ (ite_len ?_ (ite_len ?_ (ite_len ?_ (ite_len ?_ (?_))))))))))))
  all_goals first
    | (simp only [List.length_cons, List.length_nil, hexDigits_len]; omega)
    | omega
theorem quoteFrom_len (q : Nat) (a : Bool) (s : ByteArray) : ∀ fuel pos, (FmtText.quoteFrom q a s fuel pos).length ≤ fuel * 10
  | 0, _ => by simp [FmtText.quoteFrom]
  | fuel + 1, pos => by
    rw [FmtText.quoteFrom]
    have h := quoteFrom_len q a s fuel (pos + (Utf8.decode s pos).2)
    have h2 := escRune_len q a (Utf8.decode s pos).1
    split
    · rw [List.length_append]
      split
      · simp only [List.length_cons, hexDigits_len]; omega
      · omega
    · simp
theorem quote_len (a : Bool) (s : List UInt8) : (FmtText.quote a s).length ≤ s.length * 10 + 2 := by
  have h := quoteFrom_len 34 a (FmtText.arr s) s.length 0
  simp only [FmtText.quote, List.length_cons, List.length_append, List.length_nil]
  omega

theorem size_list (s : ByteArray) : s.data.toList.length = s.size := by
  rw [Array.length_toList]
  rfl
theorem told_size (F : Interp) (r : List (List UInt8)) (s : List UInt8) (h : FmtText.text "fmt.Sprintf" r = some s) (hl : s.length < 2 ^ 63) : (FmtStop.textOf (F.told "fmt.Sprintf" r 0)).size = s.length := by
  have e := Go.Kit.textOf_list F.told "fmt.Sprintf" r
  rw [told_string F h hl] at e
  rw [← size_list, e]

theorem txt0 (h : ByteArray) (hh : h.size ≤ 67) : FmtText.text "fmt.Sprintf" [[116, 104, 101, 32, 118, 101, 99, 116, 111, 114, 32, 104, 97, 115, 32, 110, 111, 32, 101, 110, 116, 114, 121, 32, 102, 111, 114, 32, 105, 116, 115, 32, 111, 119, 110, 32, 104, 111, 115, 116, 32, 37, 113], Tryf.shape9, FmtStop.pack h.data.toList] = some ([116, 104, 101, 32, 118, 101, 99, 116, 111, 114, 32, 104, 97, 115, 32, 110, 111, 32, 101, 110, 116, 114, 121, 32, 102, 111, 114, 32, 105, 116, 115, 32, 111, 119, 110, 32, 104, 111, 115, 116, 32] ++ FmtText.quote false h.data.toList) := by
  have h1 := FmtText.operand_str_at (sh := Tryf.shape9) rfl rfl h.data.toList (by rw [size_list]; omega)
  rw [FmtText.text_sprintf_glued tf0 (FmtText.operands_cons h1 FmtText.operands_nil)]
  simp [FmtText.render, FmtText.printArg_q_str]

theorem txt1 (h p : ByteArray) (k : Nat) (hh : h.size ≤ 67) (hp : p.size < 1073741824) (hk : k < 18446744073709551616) : FmtText.text "fmt.Sprintf" [[104, 111, 115, 116, 32, 37, 113, 32, 104, 97, 115, 32, 97, 110, 111, 116, 104, 101, 114, 32, 101, 118, 101, 110, 116, 32, 119, 105, 116, 104, 32, 111, 119, 110, 32, 101, 110, 116, 114, 121, 32, 37, 100, 44, 32, 97, 116, 32, 37, 115], Tryf.shape9, FmtStop.pack h.data.toList, Tryf.shape42, digits 8 ((k : Int) % 18446744073709551616).toNat, Tryf.shape9, FmtStop.pack p.data.toList] = some ([104, 111, 115, 116, 32] ++ FmtText.quote false h.data.toList ++ [32, 104, 97, 115, 32, 97, 110, 111, 116, 104, 101, 114, 32, 101, 118, 101, 110, 116, 32, 119, 105, 116, 104, 32, 111, 119, 110, 32, 101, 110, 116, 114, 121, 32] ++ Lib.itoa (k : Int) ++ [44, 32, 97, 116, 32] ++ p.data.toList) := by
  have wk : (Lit.int .u64 (k : Int)).wf = true := by simp [Lit.wf, IntKind.min, IntKind.max, IntKind.signed, IntKind.bits]; omega
  have h1 := FmtText.operand_str_at (sh := Tryf.shape9) rfl rfl h.data.toList (by rw [size_list]; omega)
  have h2 := FmtText.operand_int_at (sh := Tryf.shape42) (k := .u64) rfl rfl (k : Int) wk
  have h3 := FmtText.operand_str_at (sh := Tryf.shape9) rfl rfl p.data.toList (by rw [size_list]; omega)
  rw [FmtText.text_sprintf_glued tf1 (FmtText.operands_cons h1 (FmtText.operands_cons h2 (FmtText.operands_cons h3 FmtText.operands_nil)))]
  simp [FmtText.render, FmtText.printArg_q_str, FmtText.printArg_d _ _ wk, FmtText.printArg_s_str]

theorem txt2 (l : Int) (f : ByteArray) (wl : (Lit.int .i64 l).wf = true) (hf : f.size ≤ 1048576) : FmtText.text "fmt.Sprintf" [[108, 105, 110, 101, 32, 37, 100, 32, 111, 102, 32, 37, 115], Tryf.shape3, digits 8 (l % 18446744073709551616).toNat, Tryf.shape9, FmtStop.pack f.data.toList] = some ([108, 105, 110, 101, 32] ++ Lib.itoa l ++ [32, 111, 102, 32] ++ f.data.toList) := by
  have h2 := FmtText.operand_int_at (sh := Tryf.shape3) (k := .i64) rfl rfl l wl
  have h3 := FmtText.operand_str_at (sh := Tryf.shape9) rfl rfl f.data.toList (by rw [size_list]; omega)
  rw [FmtText.text_sprintf_glued tf2 (FmtText.operands_cons h2 (FmtText.operands_cons h3 FmtText.operands_nil))]
  simp [FmtText.render, FmtText.printArg_d _ _ wl, FmtText.printArg_s_str]

theorem txt3 (l : Int) (wl : (Lit.int .i64 l).wf = true) : FmtText.text "fmt.Sprintf" [[108, 105, 110, 101, 32, 37, 100], Tryf.shape3, digits 8 (l % 18446744073709551616).toNat] = some ([108, 105, 110, 101, 32] ++ Lib.itoa l) := by
  have h2 := FmtText.operand_int_at (sh := Tryf.shape3) (k := .i64) rfl rfl l wl
  rw [FmtText.text_sprintf_glued tf3 (FmtText.operands_cons h2 FmtText.operands_nil)]
  simp [FmtText.render, FmtText.printArg_d _ _ wl]

theorem told_ok (F : Interp) : TxtOk F.told where
  noOwn := fun h hh => by
    have hq := quote_len false h.data.toList
    rw [size_list] at hq
    rw [told_size F _ _ (txt0 h hh) (by simp only [List.length_append, List.length_cons, List.length_nil]; omega)]
    simp
  twin := fun h p k hh hp hk => by
    have hq := quote_len false h.data.toList
    have wk : (Lit.int .u64 (k : Int)).wf = true := by simp [Lit.wf, IntKind.min, IntKind.max, IntKind.signed, IntKind.bits]; omega
    have hi := FmtText.itoa_length_le wk
    rw [size_list] at hq
    rw [told_size F _ _ (txt1 h p k hh hp hk) (by simp only [List.length_append, List.length_cons, List.length_nil, size_list]; omega)]
    simp
  at2 := fun l f hl hf => by
    have hi := FmtText.itoa_length_le hl
    rw [told_size F _ _ (txt2 l f hl hf) (by simp only [List.length_append, List.length_cons, List.length_nil, size_list]; omega)]
    simp only [List.length_append, List.length_cons, List.length_nil, size_list]
    omega
  at1 := fun l hl => by
    have hi := FmtText.itoa_length_le hl
    rw [told_size F _ _ (txt3 l hl) (by simp only [List.length_append, List.length_cons, List.length_nil]; omega)]
    simp only [List.length_append, List.length_cons, List.length_nil]
    omega
end Go.Proofs.Qxb6613595aFmt
