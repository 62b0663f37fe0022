/-
  THE WALK of clockwise.LawS0325AStandIns, the ways on which the build closure fails
-/
import Derived.Test.YbulkfsaFmtChk2
import Derived.Test.YbulkfsaFmtIs
import Derived.ProofKit
import Derived.OpenShut
import Derived.RowKit3
namespace Go.Proofs.YbulkfsaFmt
open Go.ChangeShapes Go.WideShapes Go.ChangeAt Go.RowKit Go.Extern.Stop Go.Stop Go.Extern
attribute [local go_sem] nil26 nil25 fun26 fun25 sl29

set_option maxRecDepth 100000 in
set_option maxHeartbeats 2000000 in
theorem law_fail_false (nm pn : ByteArray) (mx n pr : Int) (rf : Bool) (w : World) (hpn : pn.toList.isEmpty = false ∨ (pn.toList.isEmpty = true ∧ (pr != 0) = false)) :
    Calls Ybaf.prog 3 #[.string nm, .string pn, .int .i64 mx, .int .i64 n, .int .i64 pr, .bool true, .bool true, .bool false, .bool rf] w fun e w' => e = .returned (.bool true) ∧ Grown w w' := by
  obtain ⟨i, hi, hcmp⟩ := Option.map_eq_some_iff.1 isComp
  obtain ⟨j, hj, hjs⟩ := Option.map_eq_some_iff.1 isSize
  have heq := fun w b => run_eql_iface_ptr_same (P := Ybaf.prog) w b Ybaf.underlying23 Ybaf.underlying34 hi hcmp hj
  clear hcmp hjs hi hj
  rcases hpn with g1 | ⟨g1, g2⟩
  · go_enter Ybaf.func3, Ybaf.ntmps3
    go_wp2_with (go_at_call 4; go_in)
    refine (chk_fail (w.heap.size + 1 + 1 + 1 + 1 + 1 + 1) (w.heap.size + 1 + 1 + 1 + 1 + 1 + 1 + 1 + 1) (w.heap.size + 1 + 1 + 1 + 1 + 1 + 1 + 1 + 1 + 1) (w.heap.size) (w.heap.size + 1 + 1 + 1) nm pn mx n pr _ ⟨w.heap.size + 1 + 1, 0, none⟩ _ (by omega) (by omega) (by omega) (by omega) (by omega) (by omega) (by omega) (by omega) (by omega) ?l1 ?l2 ?l3 ?l4 ?l5 ?h1 ?h2 ?h3 ?h4 ?h5 ?f1 ?f2 ?f3 (Or.inl g1)).mono ?_
    case l1 => first | (simp; done) | (simp; omega)
    case l2 => first | (simp; done) | (simp; omega)
    case l3 => first | (simp; done) | (simp; omega)
    case l4 => first | (simp; done) | (simp; omega)
    case l5 => first | (simp; done) | (simp; omega)
    case h1 => go_simp
    case h2 => go_simp
    case h3 => go_simp
    case h4 => go_simp
    case h5 => go_simp
    case f1 => go_simp
    case f2 => go_simp
    case f3 => go_simp
    rintro e w' ⟨rfl, c1, c2, rfl⟩
    go_wp2
    go_ret
    refine ⟨rfl, ?_⟩
    repeat (first | with_reducible refine Grown.alloc ?_ _ _ | with_reducible refine Grown.drew ?_)
    with_reducible exact Grown.refl _
  · go_enter Ybaf.func3, Ybaf.ntmps3
    go_wp2_with (go_at_call 4; go_in)
    refine (chk_fail (w.heap.size + 1 + 1 + 1 + 1 + 1 + 1) (w.heap.size + 1 + 1 + 1 + 1 + 1 + 1 + 1 + 1) (w.heap.size + 1 + 1 + 1 + 1 + 1 + 1 + 1 + 1 + 1) (w.heap.size) (w.heap.size + 1 + 1 + 1) nm pn mx n pr _ ⟨w.heap.size + 1 + 1, 0, none⟩ _ (by omega) (by omega) (by omega) (by omega) (by omega) (by omega) (by omega) (by omega) (by omega) ?l1 ?l2 ?l3 ?l4 ?l5 ?h1 ?h2 ?h3 ?h4 ?h5 ?f1 ?f2 ?f3 (Or.inr g2)).mono ?_
    case l1 => first | (simp; done) | (simp; omega)
    case l2 => first | (simp; done) | (simp; omega)
    case l3 => first | (simp; done) | (simp; omega)
    case l4 => first | (simp; done) | (simp; omega)
    case l5 => first | (simp; done) | (simp; omega)
    case h1 => go_simp
    case h2 => go_simp
    case h3 => go_simp
    case h4 => go_simp
    case h5 => go_simp
    case f1 => go_simp
    case f2 => go_simp
    case f3 => go_simp
    rintro e w' ⟨rfl, c1, c2, rfl⟩
    go_wp2
    go_ret
    refine ⟨rfl, ?_⟩
    repeat (first | with_reducible refine Grown.alloc ?_ _ _ | with_reducible refine Grown.drew ?_)
    with_reducible exact Grown.refl _

set_option maxRecDepth 100000 in
set_option maxHeartbeats 2000000 in
theorem law_fail_true (nm pn : ByteArray) (mx n pr : Int) (rf : Bool) (w : World) (hpn : pn.toList.isEmpty = false ∨ (pn.toList.isEmpty = true ∧ (pr != 0) = false)) :
    Calls Ybaf.prog 3 #[.string nm, .string pn, .int .i64 mx, .int .i64 n, .int .i64 pr, .bool true, .bool true, .bool true, .bool rf] w fun e w' => e = .returned (.bool true) ∧ Grown w w' := by
  obtain ⟨i, hi, hcmp⟩ := Option.map_eq_some_iff.1 isComp
  obtain ⟨j, hj, hjs⟩ := Option.map_eq_some_iff.1 isSize
  have heq := fun w b => run_eql_iface_ptr_same (P := Ybaf.prog) w b Ybaf.underlying23 Ybaf.underlying34 hi hcmp hj
  clear hcmp hjs hi hj
  rcases hpn with g1 | ⟨g1, g2⟩
  · go_enter Ybaf.func3, Ybaf.ntmps3
    go_wp2_with (go_at_call 4; go_in)
    refine (chk_fail (w.heap.size + 1 + 1 + 1 + 1 + 1 + 1) (w.heap.size + 1 + 1 + 1 + 1 + 1 + 1 + 1 + 1) (w.heap.size + 1 + 1 + 1 + 1 + 1 + 1 + 1 + 1 + 1) (w.heap.size) (w.heap.size + 1 + 1 + 1) nm pn mx n pr _ ⟨w.heap.size + 1 + 1, 0, none⟩ _ (by omega) (by omega) (by omega) (by omega) (by omega) (by omega) (by omega) (by omega) (by omega) ?l1 ?l2 ?l3 ?l4 ?l5 ?h1 ?h2 ?h3 ?h4 ?h5 ?f1 ?f2 ?f3 (Or.inl g1)).mono ?_
    case l1 => first | (simp; done) | (simp; omega)
    case l2 => first | (simp; done) | (simp; omega)
    case l3 => first | (simp; done) | (simp; omega)
    case l4 => first | (simp; done) | (simp; omega)
    case l5 => first | (simp; done) | (simp; omega)
    case h1 => go_simp
    case h2 => go_simp
    case h3 => go_simp
    case h4 => go_simp
    case h5 => go_simp
    case f1 => go_simp
    case f2 => go_simp
    case f3 => go_simp
    rintro e w' ⟨rfl, c1, c2, rfl⟩
    go_wp2
    go_ret
    refine ⟨rfl, ?_⟩
    repeat (first | with_reducible refine Grown.alloc ?_ _ _ | with_reducible refine Grown.drew ?_)
    with_reducible exact Grown.refl _
  · go_enter Ybaf.func3, Ybaf.ntmps3
    go_wp2_with (go_at_call 4; go_in)
    refine (chk_fail (w.heap.size + 1 + 1 + 1 + 1 + 1 + 1) (w.heap.size + 1 + 1 + 1 + 1 + 1 + 1 + 1 + 1) (w.heap.size + 1 + 1 + 1 + 1 + 1 + 1 + 1 + 1 + 1) (w.heap.size) (w.heap.size + 1 + 1 + 1) nm pn mx n pr _ ⟨w.heap.size + 1 + 1, 0, none⟩ _ (by omega) (by omega) (by omega) (by omega) (by omega) (by omega) (by omega) (by omega) (by omega) ?l1 ?l2 ?l3 ?l4 ?l5 ?h1 ?h2 ?h3 ?h4 ?h5 ?f1 ?f2 ?f3 (Or.inr g2)).mono ?_
    case l1 => first | (simp; done) | (simp; omega)
    case l2 => first | (simp; done) | (simp; omega)
    case l3 => first | (simp; done) | (simp; omega)
    case l4 => first | (simp; done) | (simp; omega)
    case l5 => first | (simp; done) | (simp; omega)
    case h1 => go_simp
    case h2 => go_simp
    case h3 => go_simp
    case h4 => go_simp
    case h5 => go_simp
    case f1 => go_simp
    case f2 => go_simp
    case f3 => go_simp
    rintro e w' ⟨rfl, c1, c2, rfl⟩
    go_wp2
    go_ret
    refine ⟨rfl, ?_⟩
    repeat (first | with_reducible refine Grown.alloc ?_ _ _ | with_reducible refine Grown.drew ?_)
    with_reducible exact Grown.refl _

end Go.Proofs.YbulkfsaFmt
