/-
  THE CLOSED FACTS OF THIS DUMP for the walk over fmt's stopped front (after the guide's facts for a dump over fmt): what each literal format asks, what each operand reads as, the two error types that fmt.errorf makes. Each by the kernel's own evaluation.
-/
import Derived.Test.YbulkfsaFmtRows
import Derived.Stop.CallBack
import Derived.Stop.IfaceNil
import GoSem.ClaimData
namespace Go.Proofs.YbulkfsaFmt
open Go.Extern.Stop Go.Stop Go.Extern

/-- The name of the sentinels' type, as the row's own datum has it. -/
def starES : String := match (Rows.laid_example_com_clockwise_clockwise_ErrInvalidParameter : DataW Unit) with | .iface s _ => s | _ => ""

theorem call13 (args : Array Value) (w : World) : (callFunc 13 args).run Ybaf.prog w = ((FmtStop.errorf #[9, 44] #[23] args).run Ybaf.prog w).andThen fun v w' => .ok (.value v) w' :=
  run_callFunc_extern Ybaf.func13 (by kernel_rfl) (by kernel_rfl) (by kernel_rfl) (by kernel_rfl) args w
theorem guardOk (name : String) (w : World) : (FmtStop.guard name).run Ybaf.prog w = .ok () w := by kernel_rfl

/-- format 0 -/
def fb0 : List UInt8 := [99, 108, 111, 99, 107, 119, 105, 115, 101, 58, 32, 37, 113, 32, 105, 115, 32, 110, 111, 116, 32, 97, 110, 32, 97, 108, 103, 111, 114, 105, 116, 104, 109, 32, 111, 102, 32, 116, 104, 101, 32, 112, 97, 99, 107, 97, 103, 101, 58, 32, 37, 119]
theorem fmt0 : FmtStop.printed? ⟨#[99, 108, 111, 99, 107, 119, 105, 115, 101, 58, 32, 37, 113, 32, 105, 115, 32, 110, 111, 116, 32, 97, 110, 32, 97, 108, 103, 111, 114, 105, 116, 104, 109, 32, 111, 102, 32, 116, 104, 101, 32, 112, 97, 99, 107, 97, 103, 101, 58, 32, 37, 119]⟩ 2 = some [(0, 113, false), (1, 119, false)] := by kernel_rfl
theorem fmt0r (w : World) : (FmtDoors.printed ⟨#[99, 108, 111, 99, 107, 119, 105, 115, 101, 58, 32, 37, 113, 32, 105, 115, 32, 110, 111, 116, 32, 97, 110, 32, 97, 108, 103, 111, 114, 105, 116, 104, 109, 32, 111, 102, 32, 116, 104, 101, 32, 112, 97, 99, 107, 97, 103, 101, 58, 32, 37, 119]⟩ 2).run Ybaf.prog w = .ok [(0, 113, false), (1, 119, false)] w := by kernel_rfl
theorem fmt0z : FmtStop.printed? ⟨#[99, 108, 111, 99, 107, 119, 105, 115, 101, 58, 32, 37, 113, 32, 105, 115, 32, 110, 111, 116, 32, 97, 110, 32, 97, 108, 103, 111, 114, 105, 116, 104, 109, 32, 111, 102, 32, 116, 104, 101, 32, 112, 97, 99, 107, 97, 103, 101, 58, 32, 37, 119]⟩ 0 = some [] := by kernel_rfl
theorem fmt0zr (w : World) : (FmtDoors.printed ⟨#[99, 108, 111, 99, 107, 119, 105, 115, 101, 58, 32, 37, 113, 32, 105, 115, 32, 110, 111, 116, 32, 97, 110, 32, 97, 108, 103, 111, 114, 105, 116, 104, 109, 32, 111, 102, 32, 116, 104, 101, 32, 112, 97, 99, 107, 97, 103, 101, 58, 32, 37, 119]⟩ 0).run Ybaf.prog w = .ok [] w := by kernel_rfl
/-- format 1 -/
def fb1 : List UInt8 := [99, 108, 111, 99, 107, 119, 105, 115, 101, 58, 32, 116, 104, 101, 32, 37, 115, 32, 97, 108, 103, 111, 114, 105, 116, 104, 109, 32, 116, 97, 107, 101, 115, 32, 110, 111, 32, 112, 97, 114, 97, 109, 101, 116, 101, 114, 44, 32, 110, 111, 116, 32, 37, 100, 58, 32, 37, 119]
theorem fmt1 : FmtStop.printed? ⟨#[99, 108, 111, 99, 107, 119, 105, 115, 101, 58, 32, 116, 104, 101, 32, 37, 115, 32, 97, 108, 103, 111, 114, 105, 116, 104, 109, 32, 116, 97, 107, 101, 115, 32, 110, 111, 32, 112, 97, 114, 97, 109, 101, 116, 101, 114, 44, 32, 110, 111, 116, 32, 37, 100, 58, 32, 37, 119]⟩ 3 = some [(0, 115, false), (1, 100, false), (2, 119, false)] := by kernel_rfl
theorem fmt1r (w : World) : (FmtDoors.printed ⟨#[99, 108, 111, 99, 107, 119, 105, 115, 101, 58, 32, 116, 104, 101, 32, 37, 115, 32, 97, 108, 103, 111, 114, 105, 116, 104, 109, 32, 116, 97, 107, 101, 115, 32, 110, 111, 32, 112, 97, 114, 97, 109, 101, 116, 101, 114, 44, 32, 110, 111, 116, 32, 37, 100, 58, 32, 37, 119]⟩ 3).run Ybaf.prog w = .ok [(0, 115, false), (1, 100, false), (2, 119, false)] w := by kernel_rfl
theorem fmt1z : FmtStop.printed? ⟨#[99, 108, 111, 99, 107, 119, 105, 115, 101, 58, 32, 116, 104, 101, 32, 37, 115, 32, 97, 108, 103, 111, 114, 105, 116, 104, 109, 32, 116, 97, 107, 101, 115, 32, 110, 111, 32, 112, 97, 114, 97, 109, 101, 116, 101, 114, 44, 32, 110, 111, 116, 32, 37, 100, 58, 32, 37, 119]⟩ 0 = some [] := by kernel_rfl
theorem fmt1zr (w : World) : (FmtDoors.printed ⟨#[99, 108, 111, 99, 107, 119, 105, 115, 101, 58, 32, 116, 104, 101, 32, 37, 115, 32, 97, 108, 103, 111, 114, 105, 116, 104, 109, 32, 116, 97, 107, 101, 115, 32, 110, 111, 32, 112, 97, 114, 97, 109, 101, 116, 101, 114, 44, 32, 110, 111, 116, 32, 37, 100, 58, 32, 37, 119]⟩ 0).run Ybaf.prog w = .ok [] w := by kernel_rfl
/-- format 2 -/
def fb2 : List UInt8 := [99, 108, 111, 99, 107, 119, 105, 115, 101, 58, 32, 97, 32, 116, 97, 98, 108, 101, 32, 111, 102, 32, 116, 104, 101, 32, 37, 115, 32, 97, 108, 103, 111, 114, 105, 116, 104, 109, 32, 104, 111, 108, 100, 115, 32, 97, 116, 32, 109, 111, 115, 116, 32, 37, 100, 32, 110, 111, 100, 101, 115, 44, 32, 110, 111, 116, 32, 37, 100]
theorem fmt2 : FmtStop.printed? ⟨#[99, 108, 111, 99, 107, 119, 105, 115, 101, 58, 32, 97, 32, 116, 97, 98, 108, 101, 32, 111, 102, 32, 116, 104, 101, 32, 37, 115, 32, 97, 108, 103, 111, 114, 105, 116, 104, 109, 32, 104, 111, 108, 100, 115, 32, 97, 116, 32, 109, 111, 115, 116, 32, 37, 100, 32, 110, 111, 100, 101, 115, 44, 32, 110, 111, 116, 32, 37, 100]⟩ 3 = some [(0, 115, false), (1, 100, false), (2, 100, false)] := by kernel_rfl
theorem fmt2r (w : World) : (FmtDoors.printed ⟨#[99, 108, 111, 99, 107, 119, 105, 115, 101, 58, 32, 97, 32, 116, 97, 98, 108, 101, 32, 111, 102, 32, 116, 104, 101, 32, 37, 115, 32, 97, 108, 103, 111, 114, 105, 116, 104, 109, 32, 104, 111, 108, 100, 115, 32, 97, 116, 32, 109, 111, 115, 116, 32, 37, 100, 32, 110, 111, 100, 101, 115, 44, 32, 110, 111, 116, 32, 37, 100]⟩ 3).run Ybaf.prog w = .ok [(0, 115, false), (1, 100, false), (2, 100, false)] w := by kernel_rfl
theorem fmt2z : FmtStop.printed? ⟨#[99, 108, 111, 99, 107, 119, 105, 115, 101, 58, 32, 97, 32, 116, 97, 98, 108, 101, 32, 111, 102, 32, 116, 104, 101, 32, 37, 115, 32, 97, 108, 103, 111, 114, 105, 116, 104, 109, 32, 104, 111, 108, 100, 115, 32, 97, 116, 32, 109, 111, 115, 116, 32, 37, 100, 32, 110, 111, 100, 101, 115, 44, 32, 110, 111, 116, 32, 37, 100]⟩ 0 = some [] := by kernel_rfl
theorem fmt2zr (w : World) : (FmtDoors.printed ⟨#[99, 108, 111, 99, 107, 119, 105, 115, 101, 58, 32, 97, 32, 116, 97, 98, 108, 101, 32, 111, 102, 32, 116, 104, 101, 32, 37, 115, 32, 97, 108, 103, 111, 114, 105, 116, 104, 109, 32, 104, 111, 108, 100, 115, 32, 97, 116, 32, 109, 111, 115, 116, 32, 37, 100, 32, 110, 111, 100, 101, 115, 44, 32, 110, 111, 116, 32, 37, 100]⟩ 0).run Ybaf.prog w = .ok [] w := by kernel_rfl

theorem name9 : Ybaf.prog.typeName? 3 9 = some "string" := by kernel_rfl
def shape9 : List UInt8 := [12, 6, 0, 0, 0, 0, 0, 0, 0, 115, 116, 114, 105, 110, 103]
theorem op9_115 (name : String) (x : ByteArray) (w : World) : (FmtStop.operand name false 115 false (.iface 9 (.string x))).run Ybaf.prog w = .ok (shape9, FmtStop.pack x.data.toList) w := by kernel_rfl
theorem op9_115w (name : String) (x : ByteArray) (w : World) : (FmtStop.operand name true 115 false (.iface 9 (.string x))).run Ybaf.prog w = .ok (shape9, FmtStop.pack x.data.toList) w := by kernel_rfl
theorem op9_113w (name : String) (x : ByteArray) (w : World) : (FmtStop.operand name true 113 false (.iface 9 (.string x))).run Ybaf.prog w = .ok (shape9, FmtStop.pack x.data.toList) w := by kernel_rfl
theorem strict9 (name : String) (x : ByteArray) (w : World) : (FmtStop.strict name (.iface 9 (.string x))).run Ybaf.prog w = .ok (shape9, FmtStop.pack x.data.toList) w := by kernel_rfl
theorem name3 : Ybaf.prog.typeName? 3 3 = some "int" := by kernel_rfl
def shape3 : List UInt8 := [5, 3, 0, 0, 0, 0, 0, 0, 0, 105, 110, 116]
theorem op3_100 (name : String) (x : Int) (w : World) : (FmtStop.operand name false 100 false (.iface 3 (.int .i64 x))).run Ybaf.prog w = .ok (shape3, Go.Extern.Stop.digits 8 (x % 2 ^ 64).toNat) w := by kernel_rfl
theorem op3_100w (name : String) (x : Int) (w : World) : (FmtStop.operand name true 100 false (.iface 3 (.int .i64 x))).run Ybaf.prog w = .ok (shape3, Go.Extern.Stop.digits 8 (x % 2 ^ 64).toNat) w := by kernel_rfl
theorem strict3 (name : String) (x : Int) (w : World) : (FmtStop.strict name (.iface 3 (.int .i64 x))).run Ybaf.prog w = .ok (shape3, Go.Extern.Stop.digits 8 (x % 2 ^ 64).toNat) w := by kernel_rfl

theorem ptr34 (w : World) : (FmtStop.ptrTo "errors.errorString").run Ybaf.prog w = .ok 34 w := by kernel_rfl
theorem elem34 (w : World) : (elemOf 34).run Ybaf.prog w = .ok 36 w := by kernel_rfl
theorem isError34 (w : World) : (FmtDoors.textMethod 34 "Error").run Ybaf.prog w = .ok true w := by kernel_rfl
theorem name34 : Ybaf.prog.typeName? 3 34 = some starES := by kernel_rfl
def plain34 : List UInt8 := 14 :: FmtStop.pack starES.toUTF8.data.toList
theorem opPlain34_119w (name : String) (a : Addr) (s : ByteArray) (w : World) (hc : w.cell? a = some (.string s)) :
    (FmtStop.operand name true 119 false (.iface 34 (.pointer (some a)))).run Ybaf.prog w = .ok (plain34, s.data.toList) w := by
  have h1 : (typeStr 34).run Ybaf.prog w = .ok starES w := by kernel_rfl
  have d2 : Ybaf.t34.desc = .pointer 36 := rfl
  have d3 : Ybaf.t36.desc = .named "errors.errorString" 35 := rfl
  simp [FmtStop.operand, h1, d2, d3, run_load, hc, plain34]
theorem ptr45 (w : World) : (FmtStop.ptrTo "fmt.wrapError").run Ybaf.prog w = .ok 45 w := by kernel_rfl
theorem elem45 (w : World) : (elemOf 45).run Ybaf.prog w = .ok 88 w := by kernel_rfl
theorem isError45 (w : World) : (FmtDoors.textMethod 45 "Error").run Ybaf.prog w = .ok true w := by kernel_rfl
end Go.Proofs.YbulkfsaFmt
