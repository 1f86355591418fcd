/-
  THE CLOSED FACTS FOR WALKS OVER fmt's STOPPED FRONTS IN THIS DUMP (after the guide's LabelFmt.lean, HexbadFmt.lean, at this dump's numbers). Each by the kernel's own evaluation. They bear no attribute: a walk lays those that it wants ahead of 'go_enter'.
-/
import Derived.Test.Qxb6608869aFmtRows
import Derived.Stop.CallBack
import Derived.Stop.IfaceNil
import GoSem.ClaimData
namespace Go.Proofs.Qxb6608869aFmt.Facts
open Go.Extern.Stop Go.Stop Go.Extern

theorem own : ownKnob Tryf.prog.godebug = none := by kernel_rfl
theorem guard (name : String) (w : World) : (FmtStop.guard name).run Tryf.prog w = .ok () w := by kernel_rfl

-- fmt.Sprintf: function 13; fmt.errorf: function 16: plain stops
theorem call13 (args : Array Value) (w : World) : (callFunc 13 args).run Tryf.prog w = ((FmtStop.sprintf #[9, 42] #[9] args).run Tryf.prog w).andThen fun v w' => .ok (.value v) w' :=
  run_callFunc_extern Tryf.func13 (by kernel_rfl) (by kernel_rfl) (by kernel_rfl) (by kernel_rfl) args w
theorem call16 (args : Array Value) (w : World) : (callFunc 16 args).run Tryf.prog w = ((FmtStop.errorf #[9, 42] #[28] args).run Tryf.prog w).andThen fun v w' => .ok (.value v) w' :=
  run_callFunc_extern Tryf.func16 (by kernel_rfl) (by kernel_rfl) (by kernel_rfl) (by kernel_rfl) args w

-- type 3: int; type 9: string
def shape3 : List UInt8 := [5, 3, 0, 0, 0, 0, 0, 0, 0, 105, 110, 116]
def shape9 : List UInt8 := [12, 6, 0, 0, 0, 0, 0, 0, 0, 115, 116, 114, 105, 110, 103]
-- type 37: a pointer to errors.errorString: 14, then the type's name
def plain37 : List UInt8 := 14 :: FmtStop.pack [42, 101, 114, 114, 111, 114, 115, 46, 101, 114, 114, 111, 114, 83, 116, 114, 105, 110, 103]

theorem op3_100 (name : String) (x : Int) (w : World) : (FmtStop.operand name false 100 false (.iface 3 (.int .i64 x))).run Tryf.prog w = .ok (shape3, digits 8 (x % 2 ^ 64).toNat) w := by kernel_rfl
theorem op9_115 (name : String) (x : ByteArray) (w : World) : (FmtStop.operand name false 115 false (.iface 9 (.string x))).run Tryf.prog w = .ok (shape9, FmtStop.pack x.data.toList) w := by kernel_rfl
theorem op9_113w (name : String) (x : ByteArray) (w : World) : (FmtStop.operand name true 113 false (.iface 9 (.string x))).run Tryf.prog w = .ok (shape9, FmtStop.pack x.data.toList) w := by kernel_rfl

-- what the walk over each literal format gives
theorem fmtE : FmtStop.printed? ⟨#[114, 101, 99, 111, 114, 100, 115, 32, 110, 111, 32, 97, 112, 112, 114, 97, 105, 115, 97, 108, 32, 111, 102, 32, 112, 97, 114, 116, 105, 99, 105, 112, 97, 110, 116, 32, 37, 113]⟩ 1 = some [(0, 113, false)] := by kernel_rfl
theorem fmtEr (w : World) : (FmtDoors.printed ⟨#[114, 101, 99, 111, 114, 100, 115, 32, 110, 111, 32, 97, 112, 112, 114, 97, 105, 115, 97, 108, 32, 111, 102, 32, 112, 97, 114, 116, 105, 99, 105, 112, 97, 110, 116, 32, 37, 113]⟩ 1).run Tryf.prog w = .ok [(0, 113, false)] w := by kernel_rfl
theorem fmtA : FmtStop.printed? ⟨#[108, 105, 110, 101, 32, 37, 100, 58, 32, 37, 118]⟩ 2 = some [(0, 100, false), (1, 118, false)] := by kernel_rfl
theorem fmtAr (w : World) : (FmtDoors.printed ⟨#[108, 105, 110, 101, 32, 37, 100, 58, 32, 37, 118]⟩ 2).run Tryf.prog w = .ok [(0, 100, false), (1, 118, false)] w := by kernel_rfl
theorem fmtB : FmtStop.printed? ⟨#[108, 105, 110, 101, 32, 37, 100, 58, 32, 37, 115, 58, 32, 37, 118]⟩ 3 = some [(0, 100, false), (1, 115, false), (2, 118, false)] := by kernel_rfl
theorem fmtBr (w : World) : (FmtDoors.printed ⟨#[108, 105, 110, 101, 32, 37, 100, 58, 32, 37, 115, 58, 32, 37, 118]⟩ 3).run Tryf.prog w = .ok [(0, 100, false), (1, 115, false), (2, 118, false)] w := by kernel_rfl

-- the error type that fmt.errorf makes, and such an error as an operand: its type's name and its text, out of memory
theorem ptr37 (w : World) : (FmtStop.ptrTo "errors.errorString").run Tryf.prog w = .ok 37 w := by kernel_rfl
theorem elem37 (w : World) : (elemOf 37).run Tryf.prog w = .ok 39 w := by kernel_rfl
end Go.Proofs.Qxb6608869aFmt.Facts
