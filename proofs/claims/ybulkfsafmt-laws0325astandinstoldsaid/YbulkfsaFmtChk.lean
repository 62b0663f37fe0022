/-
  (Algorithm).CheckNodeCount (7), New (9) entered in place, over whatever world: the two ways on which New refuses by fmt.Errorf, and the one on which CheckNodeCount does.
-/
import Derived.Test.YbulkfsaFmtErrorf
import Derived.Test.YbulkfsaFmtClos
import Derived.RowKit3
namespace Go.Proofs.YbulkfsaFmt
open Go.RowKit Go.Extern.Stop Go.Stop Go.Extern
attribute [local go_sem] nil26 nil25 fun26 fun25 sl29

theorem cell_a1 {W : World} {a : Addr} {o : Obj} {v : Value} (ha : a.block < W.heap.size) (h : W.cell? a = some v) : (W.alloc o).cell? a = some v := (World.cell?_alloc_lt (w := W) (o := o) (a := a) ha).trans h
theorem lt_a1 {W : World} {o : Obj} {b : Nat} (h : b < W.heap.size) : b < (W.alloc o).heap.size := by
  show b < (W.heap.push o).size
  simp; omega
theorem cell_a2 {W : World} {a : Addr} {o1 o2 : Obj} {v : Value} (ha : a.block < W.heap.size) (h : W.cell? a = some v) : ((W.alloc o1).alloc o2).cell? a = some v :=
  cell_a1 (lt_a1 ha) (cell_a1 ha h)
theorem fr_a2 {W : World} {a : Addr} {c1 c2 : Array Value} {t1 t2 : TypeId} (h : W.frozen? a = false) : ((W.alloc (.cells c1 t1)).alloc (.cells c2 t2)).frozen? a = false := by
  rw [frozen?_alloc_cells, frozen?_alloc_cells]; exact h
theorem cell_a3 {W : World} {a : Addr} {o1 o2 o3 : Obj} {v : Value} (ha : a.block < W.heap.size) (h : W.cell? a = some v) : (((W.alloc o1).alloc o2).alloc o3).cell? a = some v :=
  cell_a1 (lt_a1 (lt_a1 ha)) (cell_a1 (lt_a1 ha) (cell_a1 ha h))

set_option maxRecDepth 100000 in
set_option maxHeartbeats 1000000 in
/-- No build: New refuses. -/
theorem chk_nobuild (F : Interp) (nm pn : ByteArray) (mx n pr : Int) (cf : Value) (a : Addr) (s : ByteArray) (W : World) (hF : F.answers W.tape) (h0 : 0 < W.heap.size) (ha : a.block < W.heap.size)
    (hg : W.cell? ⟨0, 0, none⟩ = some (.iface 34 (.pointer (some a)))) (hs : W.cell? a = some (.string s)) :
    Calls Ybaf.prog 7 #[.agg #[.string nm, .string pn, .int .i64 0, .bool false, .int .i64 mx, cf, .nilFunc], .int .i64 n, .int .i64 pr] W fun e w' =>
      e = .returned (.iface 45 (.pointer (some ⟨W.heap.size + 1 + 1 + 1, 0, none⟩))) ∧ ∃ (c1 c2 c3 : Array Value) (t : ByteArray),
        w' = ((((W.alloc (.cells c1 28)).alloc (.cells c2 28)).alloc (.cells c3 20)).alloc (.cells #[.string t, .iface 34 (.pointer (some a))] 88)).drew := by
  go_enter Ybaf.func7, Ybaf.ntmps7
  go_wp2_with (first
    | (go_at_call 10; refine (errorf_q F _ nm s a _ ?hF ?h0 ?h1 ?hs).mono ?_; (case hF => exact hF); (case h0 => go_simp); (case h1 => go_simp); (case hs => exact cell_a3 ha hs); rintro e w' ⟨rfl, t, rfl⟩)
    | (go_at_call 9; go_in))
  go_ret
  exact ⟨rfl, _, _, _, _, rfl⟩

set_option maxRecDepth 100000 in
set_option maxHeartbeats 1000000 in
/-- A parameter where none is taken: New refuses. -/
theorem chk_param (F : Interp) (nm pn : ByteArray) (mx n pr : Int) (cf : Value) (f : Fn) (x y : Array Value) (a : Addr) (s : ByteArray) (W : World) (hF : F.answers W.tape) (h0 : 0 < W.heap.size) (ha : a.block < W.heap.size)
    (hg : W.cell? ⟨0, 0, none⟩ = some (.iface 34 (.pointer (some a)))) (hs : W.cell? a = some (.string s)) (hpn : pn.toList.isEmpty = true) (hpr : (pr != 0) = true) :
    Calls Ybaf.prog 7 #[.agg #[.string nm, .string pn, .int .i64 0, .bool false, .int .i64 mx, cf, .func f x y], .int .i64 n, .int .i64 pr] W fun e w' =>
      e = .returned (.iface 45 (.pointer (some ⟨W.heap.size + 1 + 1 + 1, 0, none⟩))) ∧ ∃ (c1 c2 c3 : Array Value) (t : ByteArray),
        w' = ((((W.alloc (.cells c1 28)).alloc (.cells c2 28)).alloc (.cells c3 20)).alloc (.cells #[.string t, .iface 34 (.pointer (some a))] 88)).drew := by
  go_enter Ybaf.func7, Ybaf.ntmps7
  go_wp2_with (first
    | (go_at_call 10; refine (errorf_p F _ nm s pr a _ ?hF ?h0 ?h1 ?h2 ?hs).mono ?_; (case hF => exact hF); (case h0 => go_simp); (case h1 => go_simp); (case h2 => go_simp); (case hs => exact cell_a3 ha hs); rintro e w' ⟨rfl, t, rfl⟩)
    | (go_at_call 9; go_in))
  go_ret
  exact ⟨rfl, _, _, _, _, rfl⟩
end Go.Proofs.YbulkfsaFmt
