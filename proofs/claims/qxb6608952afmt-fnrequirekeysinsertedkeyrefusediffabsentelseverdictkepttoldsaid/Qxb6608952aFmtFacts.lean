import Derived.Test.Qxb6608952aFmtProg
import Derived.Stop.CallBack
import Derived.Stop.IfaceNil
import GoSem.ClaimData
import Derived.WalkKit
import Derived.WalkSpells
import Derived.WalkLawsBesides
namespace Go.Proofs.Qxb6608952aFmt
open Go.Extern.Stop Go.Stop Go.Extern

/-! The closed facts for a walk over fmt's two stopped functions, at this program's numbers. -/
theorem call16 (args : Array Value) (w : World) : (callFunc 16 args).run Tryf.prog w = ((FmtStop.sprintf #[9, 38] #[9] args).run Tryf.prog w).andThen fun v w' => .ok (.value v) w' :=
  run_callFunc_extern Tryf.func16 (by kernel_rfl) (by kernel_rfl) (by kernel_rfl) (by kernel_rfl) args w
theorem call21 (args : Array Value) (w : World) : (callFunc 21 args).run Tryf.prog w = (FmtCalls.errorf #[9, 38] #[26] args).run Tryf.prog w :=
  run_callFunc_next Tryf.func21 (by kernel_rfl) (by kernel_rfl) (by kernel_rfl) args w
theorem guard (name : String) (w : World) : (FmtStop.guard name).run Tryf.prog w = .ok () w := by kernel_rfl
theorem nextTurns : Extern.next FmtCalls.turnsRow = some (FmtCalls.begun #[] #[]) := by kernel_rfl
theorem nextReturned : Extern.next FmtCalls.returnedRow = some (FmtCalls.returned #[] #[]) := by kernel_rfl

-- the formats
theorem fmt0 : FmtStop.printed? ⟨#[37, 115, 58, 37, 100, 58, 32]⟩ 2 = some [(0, 115, false), (1, 100, false)] := by kernel_rfl
theorem fmt0r (w : World) : (FmtDoors.printed ⟨#[37, 115, 58, 37, 100, 58, 32]⟩ 2).run Tryf.prog w = .ok [(0, 115, false), (1, 100, false)] w := by kernel_rfl
theorem fmt0n : FmtStop.printed? ⟨#[37, 115, 58, 37, 100, 58, 32]⟩ 0 = some [] := by kernel_rfl
theorem fmt0nr (w : World) : (FmtDoors.printed ⟨#[37, 115, 58, 37, 100, 58, 32]⟩ 0).run Tryf.prog w = .ok [] w := by kernel_rfl
theorem fmt1 : FmtStop.printed? ⟨#[109, 105, 115, 115, 105, 110, 103, 32, 107, 101, 121, 32, 37, 115]⟩ 1 = some [(0, 115, false)] := by kernel_rfl
theorem fmt1r (w : World) : (FmtDoors.printed ⟨#[109, 105, 115, 115, 105, 110, 103, 32, 107, 101, 121, 32, 37, 115]⟩ 1).run Tryf.prog w = .ok [(0, 115, false)] w := by kernel_rfl
theorem fmt1n : FmtStop.printed? ⟨#[109, 105, 115, 115, 105, 110, 103, 32, 107, 101, 121, 32, 37, 115]⟩ 0 = some [] := by kernel_rfl
theorem fmt1nr (w : World) : (FmtDoors.printed ⟨#[109, 105, 115, 115, 105, 110, 103, 32, 107, 101, 121, 32, 37, 115]⟩ 0).run Tryf.prog w = .ok [] w := by kernel_rfl
theorem fmt2 : FmtStop.printed? ⟨#[109, 105, 115, 115, 105, 110, 103, 32, 107, 101, 121, 115, 32, 37, 115]⟩ 1 = some [(0, 115, false)] := by kernel_rfl
theorem fmt2r (w : World) : (FmtDoors.printed ⟨#[109, 105, 115, 115, 105, 110, 103, 32, 107, 101, 121, 115, 32, 37, 115]⟩ 1).run Tryf.prog w = .ok [(0, 115, false)] w := by kernel_rfl
theorem fmt2n : FmtStop.printed? ⟨#[109, 105, 115, 115, 105, 110, 103, 32, 107, 101, 121, 115, 32, 37, 115]⟩ 0 = some [] := by kernel_rfl
theorem fmt2nr (w : World) : (FmtDoors.printed ⟨#[109, 105, 115, 115, 105, 110, 103, 32, 107, 101, 121, 115, 32, 37, 115]⟩ 0).run Tryf.prog w = .ok [] w := by kernel_rfl
theorem fmt3 : FmtStop.printed? ⟨#[37, 115, 37, 119]⟩ 2 = some [(0, 115, false), (1, 119, false)] := by kernel_rfl
theorem fmt3r (w : World) : (FmtDoors.printed ⟨#[37, 115, 37, 119]⟩ 2).run Tryf.prog w = .ok [(0, 115, false), (1, 119, false)] w := by kernel_rfl
theorem fmt3n : FmtStop.printed? ⟨#[37, 115, 37, 119]⟩ 0 = some [] := by kernel_rfl
theorem fmt3nr (w : World) : (FmtDoors.printed ⟨#[37, 115, 37, 119]⟩ 0).run Tryf.prog w = .ok [] w := by kernel_rfl

-- the operands
def shape9 : List UInt8 := [12, 6, 0, 0, 0, 0, 0, 0, 0, 115, 116, 114, 105, 110, 103]
def shape3 : List UInt8 := [5, 3, 0, 0, 0, 0, 0, 0, 0, 105, 110, 116]
theorem op9_115 (name : String) (x : ByteArray) (w : World) : (FmtStop.operand name false 115 false (.iface 9 (.string x))).run Tryf.prog w = .ok (shape9, FmtStop.pack x.data.toList) w := by kernel_rfl
theorem op9_115w (name : String) (x : ByteArray) (w : World) : (FmtStop.operand name true 115 false (.iface 9 (.string x))).run Tryf.prog w = .ok (shape9, FmtStop.pack x.data.toList) w := by kernel_rfl
theorem op3_100 (name : String) (x : Int) (w : World) : (FmtStop.operand name false 100 false (.iface 3 (.int .i64 x))).run Tryf.prog w = .ok (shape3, Go.Extern.Stop.digits 8 (x % 2 ^ 64).toNat) w := by kernel_rfl
theorem act9_115w (name : String) (x : Value) (w : World) : (FmtCalls.act name true 115 false (.iface 9 x)).run Tryf.prog w = .ok (.closed true) w := by kernel_rfl
theorem act9_115 (name : String) (x : Value) (w : World) : (FmtCalls.act name false 115 false (.iface 9 x)).run Tryf.prog w = .ok (.closed false) w := by kernel_rfl
theorem strict9 (name : String) (x : ByteArray) (w : World) : (FmtStop.strict name (.iface 9 (.string x))).run Tryf.prog w = .ok (shape9, FmtStop.pack x.data.toList) w := by kernel_rfl
theorem strict3 (name : String) (x : Int) (w : World) : (FmtStop.strict name (.iface 3 (.int .i64 x))).run Tryf.prog w = .ok (shape3, Go.Extern.Stop.digits 8 (x % 2 ^ 64).toNat) w := by kernel_rfl
theorem str9 (w : World) : (typeStr 9).run Tryf.prog w = .ok "string" w := by kernel_rfl
theorem str3 (w : World) : (typeStr 3).run Tryf.prog w = .ok "int" w := by kernel_rfl

-- the two error types that fmt.errorf makes
theorem ptr51 (w : World) : (FmtStop.ptrTo "errors.errorString").run Tryf.prog w = .ok 51 w := by kernel_rfl
theorem elem51 (w : World) : (elemOf 51).run Tryf.prog w = .ok 53 w := by kernel_rfl
theorem isError51 (w : World) : (FmtDoors.textMethod 51 "Error").run Tryf.prog w = .ok true w := by kernel_rfl
theorem str51 (w : World) : (typeStr 51).run Tryf.prog w = .ok "*errors.errorString" w := by kernel_rfl
def plain51 : List UInt8 := 14 :: FmtStop.pack "*errors.errorString".toUTF8.data.toList
theorem opPlain51_119w (name : String) (a : Addr) (s : ByteArray) (w : World) (hc : w.cell? a = some (.string s)) :
    (FmtStop.operand name true 119 false (.iface 51 (.pointer (some a)))).run Tryf.prog w = .ok (plain51, s.data.toList) w := by
  have h1 : (typeStr 51).run Tryf.prog w = .ok "*errors.errorString" w := by kernel_rfl
  have d2 : Tryf.t51.desc = .pointer 53 := rfl
  have d3 : Tryf.t53.desc = .named "errors.errorString" 52 := rfl
  simp [FmtStop.operand, h1, d2, d3, run_load, hc, plain51]
theorem actPlain51_119w (name : String) (x : Value) (w : World) : (FmtCalls.act name true 119 false (.iface 51 x)).run Tryf.prog w = .ok (.closed true) w := by kernel_rfl
theorem ptr49 (w : World) : (FmtStop.ptrTo "fmt.wrapError").run Tryf.prog w = .ok 49 w := by kernel_rfl
theorem elem49 (w : World) : (elemOf 49).run Tryf.prog w = .ok 72 w := by kernel_rfl
theorem isError49 (w : World) : (FmtDoors.textMethod 49 "Error").run Tryf.prog w = .ok true w := by kernel_rfl
end Go.Proofs.Qxb6608952aFmt
