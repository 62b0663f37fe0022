/-
  THE WALK of clockwise.LawS0325AStandIns, the ways on which n is above the most, and without a room check
-/
import Derived.Test.YbulkfsaFmtChk2
import Derived.Test.YbulkfsaFmtIs
import Derived.ProofKit
import Derived.OpenShut
import Derived.RowKit3
namespace Go.Proofs.YbulkfsaFmt
open Go.ChangeShapes Go.WideShapes Go.ChangeAt Go.RowKit Go.Extern.Stop Go.Stop Go.Extern
attribute [local go_sem] nil26 nil25 fun26 fun25 sl29

set_option maxRecDepth 100000 in
set_option maxHeartbeats 2000000 in
theorem law_over_false (F : Interp) (nm pn : ByteArray) (mx n pr : Int) (rf : Bool) (w : World) (hF : F.answers w.tape) (hpn : pn.toList.isEmpty = false ∨ (pn.toList.isEmpty = true ∧ (pr != 0) = false)) (hn : mx < n) :
    Calls Ybaf.prog 3 #[.string nm, .string pn, .int .i64 mx, .int .i64 n, .int .i64 pr, .bool true, .bool false, .bool false, .bool rf] w fun e w' => e = .returned (.bool true) ∧ Grown w w' := by
  rcases hpn with g1 | ⟨g1, g2⟩
  · go_enter Ybaf.func3, Ybaf.ntmps3
    go_wp2_with (go_at_call 4; go_in)
    refine (chk_over F (w.heap.size + 1 + 1 + 1 + 1 + 1 + 1) (w.heap.size + 1 + 1 + 1 + 1 + 1 + 1 + 1 + 1) (w.heap.size + 1 + 1 + 1 + 1 + 1 + 1 + 1 + 1 + 1) (w.heap.size) (w.heap.size + 1 + 1 + 1) nm pn mx n pr _ _ ?hF (by omega) (by omega) (by omega) (by omega) (by omega) (by omega) ?l1 ?l2 ?l3 ?l4 ?h1 ?h2 ?h3 ?h4 ?f1 ?f2 ?f3 (Or.inl g1) hn).mono ?_
    case hF => exact hF
    case l1 => first | (simp; done) | (simp; omega)
    case l2 => first | (simp; done) | (simp; omega)
    case l3 => first | (simp; done) | (simp; omega)
    case l4 => first | (simp; done) | (simp; omega)
    case h1 => go_simp
    case h2 => go_simp
    case h3 => go_simp
    case h4 => go_simp
    case f1 => go_simp
    case f2 => go_simp
    case f3 => go_simp
    rintro e w' ⟨rfl, c1, c2, c3, t, rfl⟩
    go_wp2
    go_ret
    refine ⟨rfl, ?_⟩
    repeat (first | with_reducible refine Grown.alloc ?_ _ _ | with_reducible refine Grown.drew ?_)
    with_reducible exact Grown.refl _
  · go_enter Ybaf.func3, Ybaf.ntmps3
    go_wp2_with (go_at_call 4; go_in)
    refine (chk_over F (w.heap.size + 1 + 1 + 1 + 1 + 1 + 1) (w.heap.size + 1 + 1 + 1 + 1 + 1 + 1 + 1 + 1) (w.heap.size + 1 + 1 + 1 + 1 + 1 + 1 + 1 + 1 + 1) (w.heap.size) (w.heap.size + 1 + 1 + 1) nm pn mx n pr _ _ ?hF (by omega) (by omega) (by omega) (by omega) (by omega) (by omega) ?l1 ?l2 ?l3 ?l4 ?h1 ?h2 ?h3 ?h4 ?f1 ?f2 ?f3 (Or.inr g2) hn).mono ?_
    case hF => exact hF
    case l1 => first | (simp; done) | (simp; omega)
    case l2 => first | (simp; done) | (simp; omega)
    case l3 => first | (simp; done) | (simp; omega)
    case l4 => first | (simp; done) | (simp; omega)
    case h1 => go_simp
    case h2 => go_simp
    case h3 => go_simp
    case h4 => go_simp
    case f1 => go_simp
    case f2 => go_simp
    case f3 => go_simp
    rintro e w' ⟨rfl, c1, c2, c3, t, rfl⟩
    go_wp2
    go_ret
    refine ⟨rfl, ?_⟩
    repeat (first | with_reducible refine Grown.alloc ?_ _ _ | with_reducible refine Grown.drew ?_)
    with_reducible exact Grown.refl _

set_option maxRecDepth 100000 in
set_option maxHeartbeats 2000000 in
theorem law_over_true (F : Interp) (nm pn : ByteArray) (mx n pr : Int) (rf : Bool) (w : World) (hF : F.answers w.tape) (hpn : pn.toList.isEmpty = false ∨ (pn.toList.isEmpty = true ∧ (pr != 0) = false)) (hn : mx < n) :
    Calls Ybaf.prog 3 #[.string nm, .string pn, .int .i64 mx, .int .i64 n, .int .i64 pr, .bool true, .bool false, .bool true, .bool rf] w fun e w' => e = .returned (.bool true) ∧ Grown w w' := by
  rcases hpn with g1 | ⟨g1, g2⟩
  · go_enter Ybaf.func3, Ybaf.ntmps3
    go_wp2_with (go_at_call 4; go_in)
    refine (chk_over F (w.heap.size + 1 + 1 + 1 + 1 + 1 + 1) (w.heap.size + 1 + 1 + 1 + 1 + 1 + 1 + 1 + 1) (w.heap.size + 1 + 1 + 1 + 1 + 1 + 1 + 1 + 1 + 1) (w.heap.size) (w.heap.size + 1 + 1 + 1) nm pn mx n pr _ _ ?hF (by omega) (by omega) (by omega) (by omega) (by omega) (by omega) ?l1 ?l2 ?l3 ?l4 ?h1 ?h2 ?h3 ?h4 ?f1 ?f2 ?f3 (Or.inl g1) hn).mono ?_
    case hF => exact hF
    case l1 => first | (simp; done) | (simp; omega)
    case l2 => first | (simp; done) | (simp; omega)
    case l3 => first | (simp; done) | (simp; omega)
    case l4 => first | (simp; done) | (simp; omega)
    case h1 => go_simp
    case h2 => go_simp
    case h3 => go_simp
    case h4 => go_simp
    case f1 => go_simp
    case f2 => go_simp
    case f3 => go_simp
    rintro e w' ⟨rfl, c1, c2, c3, t, rfl⟩
    go_wp2
    go_ret
    refine ⟨rfl, ?_⟩
    repeat (first | with_reducible refine Grown.alloc ?_ _ _ | with_reducible refine Grown.drew ?_)
    with_reducible exact Grown.refl _
  · go_enter Ybaf.func3, Ybaf.ntmps3
    go_wp2_with (go_at_call 4; go_in)
    refine (chk_over F (w.heap.size + 1 + 1 + 1 + 1 + 1 + 1) (w.heap.size + 1 + 1 + 1 + 1 + 1 + 1 + 1 + 1) (w.heap.size + 1 + 1 + 1 + 1 + 1 + 1 + 1 + 1 + 1) (w.heap.size) (w.heap.size + 1 + 1 + 1) nm pn mx n pr _ _ ?hF (by omega) (by omega) (by omega) (by omega) (by omega) (by omega) ?l1 ?l2 ?l3 ?l4 ?h1 ?h2 ?h3 ?h4 ?f1 ?f2 ?f3 (Or.inr g2) hn).mono ?_
    case hF => exact hF
    case l1 => first | (simp; done) | (simp; omega)
    case l2 => first | (simp; done) | (simp; omega)
    case l3 => first | (simp; done) | (simp; omega)
    case l4 => first | (simp; done) | (simp; omega)
    case h1 => go_simp
    case h2 => go_simp
    case h3 => go_simp
    case h4 => go_simp
    case f1 => go_simp
    case f2 => go_simp
    case f3 => go_simp
    rintro e w' ⟨rfl, c1, c2, c3, t, rfl⟩
    go_wp2
    go_ret
    refine ⟨rfl, ?_⟩
    repeat (first | with_reducible refine Grown.alloc ?_ _ _ | with_reducible refine Grown.drew ?_)
    with_reducible exact Grown.refl _

set_option maxRecDepth 100000 in
set_option maxHeartbeats 2000000 in
theorem law_noroom (nm pn : ByteArray) (mx n pr : Int) (rf : Bool) (w : World) (hpn : pn.toList.isEmpty = false ∨ (pn.toList.isEmpty = true ∧ (pr != 0) = false)) (hn : ¬ mx < n) :
    Calls Ybaf.prog 3 #[.string nm, .string pn, .int .i64 mx, .int .i64 n, .int .i64 pr, .bool true, .bool false, .bool false, .bool rf] w fun e w' => e = .returned (.bool true) ∧ Grown w w' := by
  rcases hpn with g1 | ⟨g1, g2⟩
  · go_enter Ybaf.func3, Ybaf.ntmps3
    go_wp2_with (go_at_call 4; go_in)
    refine (chk_noroom (w.heap.size + 1 + 1 + 1 + 1 + 1 + 1) (w.heap.size + 1 + 1 + 1 + 1 + 1 + 1 + 1 + 1) (w.heap.size + 1 + 1 + 1 + 1 + 1 + 1 + 1 + 1 + 1) (w.heap.size) (w.heap.size + 1 + 1 + 1) nm pn mx n pr _ (by omega) (by omega) (by omega) (by omega) (by omega) (by omega) ?l1 ?l2 ?l3 ?l4 ?h1 ?h2 ?h3 ?h4 ?f1 ?f2 ?f3 (Or.inl g1) (by omega)).mono ?_
    case l1 => first | (simp; done) | (simp; omega)
    case l2 => first | (simp; done) | (simp; omega)
    case l3 => first | (simp; done) | (simp; omega)
    case l4 => first | (simp; done) | (simp; omega)
    case h1 => go_simp
    case h2 => go_simp
    case h3 => go_simp
    case h4 => go_simp
    case f1 => go_simp
    case f2 => go_simp
    case f3 => go_simp
    rintro e w' ⟨rfl, c1, c2, rfl⟩
    go_wp2
    go_ret
    refine ⟨rfl, ?_⟩
    repeat (first | with_reducible refine Grown.alloc ?_ _ _ | with_reducible refine Grown.drew ?_)
    with_reducible exact Grown.refl _
  · go_enter Ybaf.func3, Ybaf.ntmps3
    go_wp2_with (go_at_call 4; go_in)
    refine (chk_noroom (w.heap.size + 1 + 1 + 1 + 1 + 1 + 1) (w.heap.size + 1 + 1 + 1 + 1 + 1 + 1 + 1 + 1) (w.heap.size + 1 + 1 + 1 + 1 + 1 + 1 + 1 + 1 + 1) (w.heap.size) (w.heap.size + 1 + 1 + 1) nm pn mx n pr _ (by omega) (by omega) (by omega) (by omega) (by omega) (by omega) ?l1 ?l2 ?l3 ?l4 ?h1 ?h2 ?h3 ?h4 ?f1 ?f2 ?f3 (Or.inr g2) (by omega)).mono ?_
    case l1 => first | (simp; done) | (simp; omega)
    case l2 => first | (simp; done) | (simp; omega)
    case l3 => first | (simp; done) | (simp; omega)
    case l4 => first | (simp; done) | (simp; omega)
    case h1 => go_simp
    case h2 => go_simp
    case h3 => go_simp
    case h4 => go_simp
    case f1 => go_simp
    case f2 => go_simp
    case f3 => go_simp
    rintro e w' ⟨rfl, c1, c2, rfl⟩
    go_wp2
    go_ret
    refine ⟨rfl, ?_⟩
    repeat (first | with_reducible refine Grown.alloc ?_ _ _ | with_reducible refine Grown.drew ?_)
    with_reducible exact Grown.refl _

end Go.Proofs.YbulkfsaFmt
