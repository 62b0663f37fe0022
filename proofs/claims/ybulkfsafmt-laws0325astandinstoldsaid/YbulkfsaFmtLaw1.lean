/-
  THE WALK of clockwise.LawS0325AStandIns, the ways on which New refuses
-/
import Derived.Test.YbulkfsaFmtSteps
import Derived.Test.YbulkfsaFmtIs
import Derived.ProofKit
import Derived.OpenShut
import Derived.RowKit3
namespace Go.Proofs.YbulkfsaFmt
open Go.ChangeShapes Go.WideShapes Go.ChangeAt Go.RowKit Go.Extern.Stop Go.Stop Go.Extern
attribute [local go_sem] nil26 nil25 fun26 fun25 sl29

set_option maxRecDepth 100000 in
set_option maxHeartbeats 2000000 in
theorem law_nobuild_false (F : Interp) (nm pn : ByteArray) (mx n pr : Int) (bf rf : Bool) (a : Addr) (s : ByteArray) (w : World) (hF : F.answers w.tape) (h0 : 0 < w.heap.size) (ha : a.block < w.heap.size)
    (hg : w.cell? ⟨0, 0, none⟩ = some (.iface 34 (.pointer (some a)))) (hs : w.cell? a = some (.string s)) :
    Calls Ybaf.prog 3 #[.string nm, .string pn, .int .i64 mx, .int .i64 n, .int .i64 pr, .bool false, .bool bf, .bool false, .bool rf] w fun e w' => e = .returned (.bool true) ∧ Grown w w' := by
  go_enter Ybaf.func3, Ybaf.ntmps3
  go_wp2_with (go_at_call 4; go_in)
  refine (chk_nobuild F nm pn mx n pr _ a s _ ?hF ?h0 ?ha ?hg ?hs).mono ?_
  case hF => exact hF
  case h0 => simp
  case ha => exact lt13 ha
  case hg => go_simp
  case hs => exact cell13 ha hs
  rintro e w' ⟨rfl, c1, c2, c3, t, rfl⟩
  go_wp2_with (go_at_call 8; refine (is_wrap_same _ _ a _ ?h1).mono ?_; (case h1 => go_simp); rintro e w' ⟨rfl, rfl⟩)
  go_ret
  refine ⟨rfl, Grown.drew ?_⟩
  iterate 17 refine Grown.alloc ?_ _ _
  exact Grown.refl _

set_option maxRecDepth 100000 in
set_option maxHeartbeats 2000000 in
theorem law_nobuild_true (F : Interp) (nm pn : ByteArray) (mx n pr : Int) (bf rf : Bool) (a : Addr) (s : ByteArray) (w : World) (hF : F.answers w.tape) (h0 : 0 < w.heap.size) (ha : a.block < w.heap.size)
    (hg : w.cell? ⟨0, 0, none⟩ = some (.iface 34 (.pointer (some a)))) (hs : w.cell? a = some (.string s)) :
    Calls Ybaf.prog 3 #[.string nm, .string pn, .int .i64 mx, .int .i64 n, .int .i64 pr, .bool false, .bool bf, .bool true, .bool rf] w fun e w' => e = .returned (.bool true) ∧ Grown w w' := by
  go_enter Ybaf.func3, Ybaf.ntmps3
  go_wp2_with (go_at_call 4; go_in)
  refine (chk_nobuild F nm pn mx n pr _ a s _ ?hF ?h0 ?ha ?hg ?hs).mono ?_
  case hF => exact hF
  case h0 => simp
  case ha => exact lt13 ha
  case hg => go_simp
  case hs => exact cell13 ha hs
  rintro e w' ⟨rfl, c1, c2, c3, t, rfl⟩
  go_wp2_with (go_at_call 8; refine (is_wrap_same _ _ a _ ?h1).mono ?_; (case h1 => go_simp); rintro e w' ⟨rfl, rfl⟩)
  go_ret
  refine ⟨rfl, Grown.drew ?_⟩
  iterate 17 refine Grown.alloc ?_ _ _
  exact Grown.refl _

set_option maxRecDepth 100000 in
set_option maxHeartbeats 2000000 in
theorem law_param_false (F : Interp) (nm pn : ByteArray) (mx n pr : Int) (bf rf : Bool) (a : Addr) (s : ByteArray) (w : World) (hF : F.answers w.tape) (h0 : 0 < w.heap.size) (ha : a.block < w.heap.size)
    (hg : w.cell? ⟨0, 0, none⟩ = some (.iface 34 (.pointer (some a)))) (hs : w.cell? a = some (.string s)) (hpn : pn.toList.isEmpty = true) (hpr : (pr != 0) = true) :
    Calls Ybaf.prog 3 #[.string nm, .string pn, .int .i64 mx, .int .i64 n, .int .i64 pr, .bool true, .bool bf, .bool false, .bool rf] w fun e w' => e = .returned (.bool true) ∧ Grown w w' := by
  go_enter Ybaf.func3, Ybaf.ntmps3
  go_wp2_with (go_at_call 4; go_in)
  refine (chk_param F nm pn mx n pr _ _ _ _ a s _ ?hF ?h0 ?ha ?hg ?hs hpn hpr).mono ?_
  case hF => exact hF
  case h0 => simp
  case ha => exact lt13 ha
  case hg => go_simp
  case hs => exact cell13 ha hs
  rintro e w' ⟨rfl, c1, c2, c3, t, rfl⟩
  go_wp2_with (go_at_call 8; refine (is_wrap_same _ _ a _ ?h1).mono ?_; (case h1 => go_simp); rintro e w' ⟨rfl, rfl⟩)
  go_ret
  refine ⟨rfl, Grown.drew ?_⟩
  iterate 17 refine Grown.alloc ?_ _ _
  exact Grown.refl _

set_option maxRecDepth 100000 in
set_option maxHeartbeats 2000000 in
theorem law_param_true (F : Interp) (nm pn : ByteArray) (mx n pr : Int) (bf rf : Bool) (a : Addr) (s : ByteArray) (w : World) (hF : F.answers w.tape) (h0 : 0 < w.heap.size) (ha : a.block < w.heap.size)
    (hg : w.cell? ⟨0, 0, none⟩ = some (.iface 34 (.pointer (some a)))) (hs : w.cell? a = some (.string s)) (hpn : pn.toList.isEmpty = true) (hpr : (pr != 0) = true) :
    Calls Ybaf.prog 3 #[.string nm, .string pn, .int .i64 mx, .int .i64 n, .int .i64 pr, .bool true, .bool bf, .bool true, .bool rf] w fun e w' => e = .returned (.bool true) ∧ Grown w w' := by
  go_enter Ybaf.func3, Ybaf.ntmps3
  go_wp2_with (go_at_call 4; go_in)
  refine (chk_param F nm pn mx n pr _ _ _ _ a s _ ?hF ?h0 ?ha ?hg ?hs hpn hpr).mono ?_
  case hF => exact hF
  case h0 => simp
  case ha => exact lt13 ha
  case hg => go_simp
  case hs => exact cell13 ha hs
  rintro e w' ⟨rfl, c1, c2, c3, t, rfl⟩
  go_wp2_with (go_at_call 8; refine (is_wrap_same _ _ a _ ?h1).mono ?_; (case h1 => go_simp); rintro e w' ⟨rfl, rfl⟩)
  go_ret
  refine ⟨rfl, Grown.drew ?_⟩
  iterate 17 refine Grown.alloc ?_ _ _
  exact Grown.refl _

end Go.Proofs.YbulkfsaFmt
