/-
  fmt.Sprintf (function 36, a stop) in this program: the closed facts that a walk wants, after the kit's own pattern (LabelFmt.lean); one fact a format of the program's text.
-/
import Derived.Test.Qxb6613595aFmtRows
import Derived.Stop.CallBack
import Derived.Stop.IfaceNil
import GoSem.ClaimData
import Derived.WalkKit
import Derived.WalkSpells
namespace Go.Proofs
open Go.Extern.Stop Go.Stop Go.Extern

@[go_sem] theorem Tryf.call36 (args : Array Value) (w : World) : (callFunc 36 args).run Tryf.prog w = ((FmtStop.sprintf #[9, 169] #[9] args).run Tryf.prog w).andThen fun v w' => .ok (.value v) w' :=
  run_callFunc_extern Tryf.func36 (by kernel_rfl) (by kernel_rfl) (by kernel_rfl) (by kernel_rfl) args w
@[go_sem] theorem Tryf.guard (name : String) (w : World) : (FmtStop.guard name).run Tryf.prog w = .ok () w := by kernel_rfl
-- the vector has no entry for its own host %q
@[go_sem] theorem Tryf.fmt0 : FmtStop.printed? ⟨#[116, 104, 101, 32, 118, 101, 99, 116, 111, 114, 32, 104, 97, 115, 32, 110, 111, 32, 101, 110, 116, 114, 121, 32, 102, 111, 114, 32, 105, 116, 115, 32, 111, 119, 110, 32, 104, 111, 115, 116, 32, 37, 113]⟩ 1 = some [(0, 113, false)] := by kernel_rfl
@[go_sem] theorem Tryf.fmt0r (w : World) : (FmtDoors.printed ⟨#[116, 104, 101, 32, 118, 101, 99, 116, 111, 114, 32, 104, 97, 115, 32, 110, 111, 32, 101, 110, 116, 114, 121, 32, 102, 111, 114, 32, 105, 116, 115, 32, 111, 119, 110, 32, 104, 111, 115, 116, 32, 37, 113]⟩ 1).run Tryf.prog w = .ok [(0, 113, false)] w := by kernel_rfl
-- host %q has another event with own entry %d, at %s
@[go_sem] theorem Tryf.fmt1 : FmtStop.printed? ⟨#[104, 111, 115, 116, 32, 37, 113, 32, 104, 97, 115, 32, 97, 110, 111, 116, 104, 101, 114, 32, 101, 118, 101, 110, 116, 32, 119, 105, 116, 104, 32, 111, 119, 110, 32, 101, 110, 116, 114, 121, 32, 37, 100, 44, 32, 97, 116, 32, 37, 115]⟩ 3 = some [(0, 113, false), (1, 100, false), (2, 115, false)] := by kernel_rfl
@[go_sem] theorem Tryf.fmt1r (w : World) : (FmtDoors.printed ⟨#[104, 111, 115, 116, 32, 37, 113, 32, 104, 97, 115, 32, 97, 110, 111, 116, 104, 101, 114, 32, 101, 118, 101, 110, 116, 32, 119, 105, 116, 104, 32, 111, 119, 110, 32, 101, 110, 116, 114, 121, 32, 37, 100, 44, 32, 97, 116, 32, 37, 115]⟩ 3).run Tryf.prog w = .ok [(0, 113, false), (1, 100, false), (2, 115, false)] w := by kernel_rfl
-- own entry %d, but host %q logs no event with own entry %d
@[go_sem] theorem Tryf.fmt2 : FmtStop.printed? ⟨#[111, 119, 110, 32, 101, 110, 116, 114, 121, 32, 37, 100, 44, 32, 98, 117, 116, 32, 104, 111, 115, 116, 32, 37, 113, 32, 108, 111, 103, 115, 32, 110, 111, 32, 101, 118, 101, 110, 116, 32, 119, 105, 116, 104, 32, 111, 119, 110, 32, 101, 110, 116, 114, 121, 32, 37, 100]⟩ 3 = some [(0, 100, false), (1, 113, false), (2, 100, false)] := by kernel_rfl
@[go_sem] theorem Tryf.fmt2r (w : World) : (FmtDoors.printed ⟨#[111, 119, 110, 32, 101, 110, 116, 114, 121, 32, 37, 100, 44, 32, 98, 117, 116, 32, 104, 111, 115, 116, 32, 37, 113, 32, 108, 111, 103, 115, 32, 110, 111, 32, 101, 118, 101, 110, 116, 32, 119, 105, 116, 104, 32, 111, 119, 110, 32, 101, 110, 116, 114, 121, 32, 37, 100]⟩ 3).run Tryf.prog w = .ok [(0, 100, false), (1, 113, false), (2, 100, false)] w := by kernel_rfl
-- entry %q:%d names a host that logs no event
@[go_sem] theorem Tryf.fmt3 : FmtStop.printed? ⟨#[101, 110, 116, 114, 121, 32, 37, 113, 58, 37, 100, 32, 110, 97, 109, 101, 115, 32, 97, 32, 104, 111, 115, 116, 32, 116, 104, 97, 116, 32, 108, 111, 103, 115, 32, 110, 111, 32, 101, 118, 101, 110, 116]⟩ 2 = some [(0, 113, false), (1, 100, false)] := by kernel_rfl
@[go_sem] theorem Tryf.fmt3r (w : World) : (FmtDoors.printed ⟨#[101, 110, 116, 114, 121, 32, 37, 113, 58, 37, 100, 32, 110, 97, 109, 101, 115, 32, 97, 32, 104, 111, 115, 116, 32, 116, 104, 97, 116, 32, 108, 111, 103, 115, 32, 110, 111, 32, 101, 118, 101, 110, 116]⟩ 2).run Tryf.prog w = .ok [(0, 113, false), (1, 100, false)] w := by kernel_rfl
-- entry %q:%d is above the %d events that host logs
@[go_sem] theorem Tryf.fmt4 : FmtStop.printed? ⟨#[101, 110, 116, 114, 121, 32, 37, 113, 58, 37, 100, 32, 105, 115, 32, 97, 98, 111, 118, 101, 32, 116, 104, 101, 32, 37, 100, 32, 101, 118, 101, 110, 116, 115, 32, 116, 104, 97, 116, 32, 104, 111, 115, 116, 32, 108, 111, 103, 115]⟩ 3 = some [(0, 113, false), (1, 100, false), (2, 100, false)] := by kernel_rfl
@[go_sem] theorem Tryf.fmt4r (w : World) : (FmtDoors.printed ⟨#[101, 110, 116, 114, 121, 32, 37, 113, 58, 37, 100, 32, 105, 115, 32, 97, 98, 111, 118, 101, 32, 116, 104, 101, 32, 37, 100, 32, 101, 118, 101, 110, 116, 115, 32, 116, 104, 97, 116, 32, 104, 111, 115, 116, 32, 108, 111, 103, 115]⟩ 3).run Tryf.prog w = .ok [(0, 113, false), (1, 100, false), (2, 100, false)] w := by kernel_rfl
-- line %d of %s
@[go_sem] theorem Tryf.fmt5 : FmtStop.printed? ⟨#[108, 105, 110, 101, 32, 37, 100, 32, 111, 102, 32, 37, 115]⟩ 2 = some [(0, 100, false), (1, 115, false)] := by kernel_rfl
@[go_sem] theorem Tryf.fmt5r (w : World) : (FmtDoors.printed ⟨#[108, 105, 110, 101, 32, 37, 100, 32, 111, 102, 32, 37, 115]⟩ 2).run Tryf.prog w = .ok [(0, 100, false), (1, 115, false)] w := by kernel_rfl
-- line %d
@[go_sem] theorem Tryf.fmt6 : FmtStop.printed? ⟨#[108, 105, 110, 101, 32, 37, 100]⟩ 1 = some [(0, 100, false)] := by kernel_rfl
@[go_sem] theorem Tryf.fmt6r (w : World) : (FmtDoors.printed ⟨#[108, 105, 110, 101, 32, 37, 100]⟩ 1).run Tryf.prog w = .ok [(0, 100, false)] w := by kernel_rfl
-- event %d of %q (%s), which it names, already knows it: %q:%d
@[go_sem] theorem Tryf.fmt7 : FmtStop.printed? ⟨#[101, 118, 101, 110, 116, 32, 37, 100, 32, 111, 102, 32, 37, 113, 32, 40, 37, 115, 41, 44, 32, 119, 104, 105, 99, 104, 32, 105, 116, 32, 110, 97, 109, 101, 115, 44, 32, 97, 108, 114, 101, 97, 100, 121, 32, 107, 110, 111, 119, 115, 32, 105, 116, 58, 32, 37, 113, 58, 37, 100]⟩ 5 = some [(0, 100, false), (1, 113, false), (2, 115, false), (3, 113, false), (4, 100, false)] := by kernel_rfl
@[go_sem] theorem Tryf.fmt7r (w : World) : (FmtDoors.printed ⟨#[101, 118, 101, 110, 116, 32, 37, 100, 32, 111, 102, 32, 37, 113, 32, 40, 37, 115, 41, 44, 32, 119, 104, 105, 99, 104, 32, 105, 116, 32, 110, 97, 109, 101, 115, 44, 32, 97, 108, 114, 101, 97, 100, 121, 32, 107, 110, 111, 119, 115, 32, 105, 116, 58, 32, 37, 113, 58, 37, 100]⟩ 5).run Tryf.prog w = .ok [(0, 100, false), (1, 113, false), (2, 115, false), (3, 113, false), (4, 100, false)] w := by kernel_rfl
-- event %d of %q (%s), which it names, has %q:%d, above its %d
@[go_sem] theorem Tryf.fmt8 : FmtStop.printed? ⟨#[101, 118, 101, 110, 116, 32, 37, 100, 32, 111, 102, 32, 37, 113, 32, 40, 37, 115, 41, 44, 32, 119, 104, 105, 99, 104, 32, 105, 116, 32, 110, 97, 109, 101, 115, 44, 32, 104, 97, 115, 32, 37, 113, 58, 37, 100, 44, 32, 97, 98, 111, 118, 101, 32, 105, 116, 115, 32, 37, 100]⟩ 6 = some [(0, 100, false), (1, 113, false), (2, 115, false), (3, 113, false), (4, 100, false), (5, 100, false)] := by kernel_rfl
@[go_sem] theorem Tryf.fmt8r (w : World) : (FmtDoors.printed ⟨#[101, 118, 101, 110, 116, 32, 37, 100, 32, 111, 102, 32, 37, 113, 32, 40, 37, 115, 41, 44, 32, 119, 104, 105, 99, 104, 32, 105, 116, 32, 110, 97, 109, 101, 115, 44, 32, 104, 97, 115, 32, 37, 113, 58, 37, 100, 44, 32, 97, 98, 111, 118, 101, 32, 105, 116, 115, 32, 37, 100]⟩ 6).run Tryf.prog w = .ok [(0, 100, false), (1, 113, false), (2, 115, false), (3, 113, false), (4, 100, false), (5, 100, false)] w := by kernel_rfl
-- type 3: int
def Tryf.shape3 : List UInt8 := [5, 3, 0, 0, 0, 0, 0, 0, 0, 105, 110, 116]
@[go_sem] theorem Tryf.op3_100 (name : String) (x : Int) (w : World) : (FmtStop.operand name false 100 false (.iface 3 (.int .i64 x))).run Tryf.prog w = .ok (Tryf.shape3, Go.Extern.Stop.digits 8 (x % 2 ^ 64).toNat) w := by kernel_rfl
-- type 42: uint64
def Tryf.shape42 : List UInt8 := [9, 6, 0, 0, 0, 0, 0, 0, 0, 117, 105, 110, 116, 54, 52]
@[go_sem] theorem Tryf.op42_100 (name : String) (x : Int) (w : World) : (FmtStop.operand name false 100 false (.iface 42 (.int .u64 x))).run Tryf.prog w = .ok (Tryf.shape42, Go.Extern.Stop.digits 8 (x % 2 ^ 64).toNat) w := by kernel_rfl
-- type 9: string
def Tryf.shape9 : List UInt8 := [12, 6, 0, 0, 0, 0, 0, 0, 0, 115, 116, 114, 105, 110, 103]
@[go_sem] theorem Tryf.op9_115 (name : String) (x : ByteArray) (w : World) : (FmtStop.operand name false 115 false (.iface 9 (.string x))).run Tryf.prog w = .ok (Tryf.shape9, FmtStop.pack x.data.toList) w := by kernel_rfl
@[go_sem] theorem Tryf.op9_113 (name : String) (x : ByteArray) (w : World) : (FmtStop.operand name false 113 false (.iface 9 (.string x))).run Tryf.prog w = .ok (Tryf.shape9, FmtStop.pack x.data.toList) w := by kernel_rfl
end Go.Proofs
