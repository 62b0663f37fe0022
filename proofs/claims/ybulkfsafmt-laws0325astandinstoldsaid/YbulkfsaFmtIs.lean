/-
  errors.Is BY ITS CONTRACT (after the guide's 10.9) at what this law hands it: a *fmt.wrapError that wraps the sentinel itself: one Unwrap, then equal.
-/
import Derived.Test.YbulkfsaFmtRows
import Derived.WalkKit
import Derived.LaidEql
import Derived.Stop.Asserts
import Derived.RowKitTokens
namespace Go.Proofs.YbulkfsaFmt
open Go.RowKit Go.Extern.Stop Go.Stop Go.Extern

theorem isTypeOf (v : Value) (w : World) : (callFunc 11 #[.iface 34 v]).run Ybaf.prog w = .ok (.value (.iface 47 (.agg #[.pointer (some ⟨1, 34, none⟩)]))) w := by kernel_rfl
theorem isComparable (w : World) : (callFunc 35 #[.agg #[.pointer (some ⟨1, 34, none⟩)]]).run Ybaf.prog w = .ok (.value (.bool true)) w := by kernel_rfl
theorem isMethodComparable (v : Value) (w : World) : (Go.method 214 47 v "Comparable").run Ybaf.prog w = .ok (35, v) w := by kernel_rfl
theorem isComp : (Ybaf.prog.info? 34).map (·.comparable) = some true := by kernel_rfl
theorem isSize : (Ybaf.prog.info? 36).map (·.size) = some 1 := by kernel_rfl
theorem noIsW (v : Value) (xT : TypeId) (w : World) : (Instr.typeAssert (.iface 45 v) xT 49 true).run Ybaf.prog w = .ok (.tuple #[.nilIface, .bool false]) w := run_typeAssert_lacksB Ybaf.underlying49 (by kernel_rfl) (by kernel_rfl) v xT w
theorem hasUnwrapW (v : Value) (xT : TypeId) (w : World) : (Instr.typeAssert (.iface 45 v) xT 52 true).run Ybaf.prog w = .ok (.tuple #[.iface 45 v, .bool true]) w := run_typeAssert_hasB Ybaf.underlying52 (by kernel_rfl) v xT w
theorem methodUnwrap (v : Value) (w : World) : (Go.method 214 45 v "Unwrap").run Ybaf.prog w = .ok (31, v) w := by kernel_rfl

set_option maxRecDepth 100000 in
theorem is_wrap_same (pb po : Nat) (b : Addr) (w : World) (h1 : w.cell? ⟨pb, po + 1, none⟩ = some (.iface 34 (.pointer (some b)))) :
    Calls Ybaf.prog 8 #[.iface 45 (.pointer (some ⟨pb, po, none⟩)), .iface 34 (.pointer (some b))] w fun e w' => e = .returned (.bool true) ∧ w' = w := by
  obtain ⟨i, hi, hcmp⟩ := Option.map_eq_some_iff.1 isComp
  obtain ⟨j, hj, hjs⟩ := Option.map_eq_some_iff.1 isSize
  have tT := isTypeOf
  have cT := isComparable
  have mR := isMethodComparable
  have nW := noIsW
  have uW := hasUnwrapW
  have mU := methodUnwrap
  have heq := run_eql_iface_ptr_same (P := Ybaf.prog) w b Ybaf.underlying23 Ybaf.underlying34 hi hcmp hj
  have hty := run_eql_iface_types (P := Ybaf.prog) 45 34 (.pointer (some ⟨pb, po, none⟩)) (.pointer (some b)) Ybaf.underlying23 (by decide) w
  go_enter Ybaf.func8, Ybaf.ntmps8
  go_wp2
  refine wp_loop_rounds 2 ?_
  rw [rounds_succ]
  go_wp2
  rw [rounds_succ]
  go_wp2
  go_ret
  exact ⟨rfl, rfl⟩
end Go.Proofs.YbulkfsaFmt
