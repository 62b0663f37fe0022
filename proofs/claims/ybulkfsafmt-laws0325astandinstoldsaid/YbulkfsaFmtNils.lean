/-
  CLOSED FACTS: '==' of function values against nil at the two function types of this dump, of interface values of type error against nil, of a slice of nodes against nil.
-/
import Derived.Test.YbulkfsaFmtRows
import Derived.WalkKit
import Derived.LaidEql
namespace Go.Proofs.YbulkfsaFmt
theorem nil26 (w : World) : (binOp .eql 26 .nilFunc .nilFunc).run Ybaf.prog w = .ok (.bool true) w := by kernel_rfl
theorem nil25 (w : World) : (binOp .eql 25 .nilFunc .nilFunc).run Ybaf.prog w = .ok (.bool true) w := by kernel_rfl
theorem fun26 (f : Fn) (x y : Array Value) (w : World) : (binOp .eql 26 (.func f x y) .nilFunc).run Ybaf.prog w = .ok (.bool false) w := by kernel_rfl
theorem fun25 (f : Fn) (x y : Array Value) (w : World) : (binOp .eql 25 (.func f x y) .nilFunc).run Ybaf.prog w = .ok (.bool false) w := by kernel_rfl
theorem sl29 (w : World) : (binOp .eql 29 (.slice none 0 0) (.slice none 0 0)).run Ybaf.prog w = .ok (.bool true) w := by kernel_rfl
end Go.Proofs.YbulkfsaFmt
