/-
  THE CLOSED FACTS FOR A WALK OVER fmt's STOPPED FRONT 'fmt.errorf' at this seat's program (after the guide's CheckFmt text, turned to this dump's numbers).
-/
import Derived.Test.YbulkchqmFmtRows
import Derived.Stop.FmtLaws
import Derived.Laws.Externs
import Derived.Stop.IfaceNil
import GoSem.ClaimData
namespace Go.Proofs.YbulkchqmFmt
open Go.Extern.Stop Go.Stop Go.Extern

@[go_sem] theorem call9 (args : Array Value) (w : World) : (callFunc 9 args).run Ybaf.prog w = ((FmtStop.errorf #[9, 30] #[23] args).run Ybaf.prog w).andThen fun v w' => .ok (.value v) w' :=
  run_callFunc_extern Ybaf.func9 (by kernel_rfl) (by kernel_rfl) (by kernel_rfl) (by kernel_rfl) args w

@[go_sem] theorem fguard (name : String) (w : World) : (FmtStop.guard name).run Ybaf.prog w = .ok () w := by kernel_rfl

@[go_sem] theorem fmt0 : FmtStop.printed? ⟨#[107, 32, 61, 32, 37, 100, 32, 111, 110, 32, 37, 100, 32, 110, 111, 100, 101, 115, 58, 32, 119, 97, 110, 116, 32, 49, 32, 60, 61, 32, 107, 32, 60, 32, 110, 32, 119, 105, 116, 104, 32, 110, 42, 107, 32, 101, 118, 101, 110]⟩ 2 = some [(0, 100, false), (1, 100, false)] := by kernel_rfl
@[go_sem] theorem fmt0r (w : World) : (FmtDoors.printed ⟨#[107, 32, 61, 32, 37, 100, 32, 111, 110, 32, 37, 100, 32, 110, 111, 100, 101, 115, 58, 32, 119, 97, 110, 116, 32, 49, 32, 60, 61, 32, 107, 32, 60, 32, 110, 32, 119, 105, 116, 104, 32, 110, 42, 107, 32, 101, 118, 101, 110]⟩ 2).run Ybaf.prog w = .ok [(0, 100, false), (1, 100, false)] w := by kernel_rfl
@[go_sem] theorem fmt1 : FmtStop.printed? ⟨#[116, 104, 101, 32, 110, 111, 100, 101, 32, 99, 111, 117, 110, 116, 32, 37, 100, 32, 105, 115, 32, 111, 117, 116, 115, 105, 100, 101, 32, 49, 46, 46, 37, 100]⟩ 2 = some [(0, 100, false), (1, 100, false)] := by kernel_rfl
@[go_sem] theorem fmt1r (w : World) : (FmtDoors.printed ⟨#[116, 104, 101, 32, 110, 111, 100, 101, 32, 99, 111, 117, 110, 116, 32, 37, 100, 32, 105, 115, 32, 111, 117, 116, 115, 105, 100, 101, 32, 49, 46, 46, 37, 100]⟩ 2).run Ybaf.prog w = .ok [(0, 100, false), (1, 100, false)] w := by kernel_rfl

def shape3 : List UInt8 := [5, 3, 0, 0, 0, 0, 0, 0, 0, 105, 110, 116]
@[go_sem] theorem op3_100 (name : String) (x : Int) (w : World) : (FmtStop.operand name false 100 false (.iface 3 (.int .i64 x))).run Ybaf.prog w = .ok (shape3, Go.Extern.Stop.digits 8 (x % 2 ^ 64).toNat) w := by kernel_rfl
@[go_sem] theorem op3_100w (name : String) (x : Int) (w : World) : (FmtStop.operand name true 100 false (.iface 3 (.int .i64 x))).run Ybaf.prog w = .ok (shape3, Go.Extern.Stop.digits 8 (x % 2 ^ 64).toNat) w := by kernel_rfl
@[go_sem] theorem strict3 (name : String) (x : Int) (w : World) : (FmtStop.strict name (.iface 3 (.int .i64 x))).run Ybaf.prog w = .ok (shape3, Go.Extern.Stop.digits 8 (x % 2 ^ 64).toNat) w := by kernel_rfl

@[go_sem] theorem ptr33 (w : World) : (FmtStop.ptrTo "errors.errorString").run Ybaf.prog w = .ok 33 w := by kernel_rfl
@[go_sem] theorem elem33 (w : World) : (elemOf 33).run Ybaf.prog w = .ok 35 w := by kernel_rfl
@[go_sem] theorem isError33 (w : World) : (FmtDoors.textMethod 33 "Error").run Ybaf.prog w = .ok true w := by kernel_rfl
@[go_sem] theorem ptr32 (w : World) : (FmtStop.ptrTo "fmt.wrapError").run Ybaf.prog w = .ok 32 w := by kernel_rfl
@[go_sem] theorem elem32 (w : World) : (elemOf 32).run Ybaf.prog w = .ok 53 w := by kernel_rfl
@[go_sem] theorem isError32 (w : World) : (FmtDoors.textMethod 32 "Error").run Ybaf.prog w = .ok true w := by kernel_rfl

end Go.Proofs.YbulkchqmFmt
