/-
  SMALL STEPS for the law's walk: thirteen new blocks.
-/
import Derived.Test.YbulkfsaFmtChk
import Derived.RowKit3
namespace Go.Proofs.YbulkfsaFmt
open Go.RowKit
theorem lt13 {W : World} {o1 o2 o3 o4 o5 o6 o7 o8 o9 o10 o11 o12 o13 : Obj} {b : Nat} (h : b < W.heap.size) : b < (((((((((((((W.alloc o1).alloc o2).alloc o3).alloc o4).alloc o5).alloc o6).alloc o7).alloc o8).alloc o9).alloc o10).alloc o11).alloc o12).alloc o13).heap.size := (lt_a1 (lt_a1 (lt_a1 (lt_a1 (lt_a1 (lt_a1 (lt_a1 (lt_a1 (lt_a1 (lt_a1 (lt_a1 (lt_a1 (lt_a1 h)))))))))))))
theorem cell13 {W : World} {o1 o2 o3 o4 o5 o6 o7 o8 o9 o10 o11 o12 o13 : Obj} {a : Addr} {v : Value} (ha : a.block < W.heap.size) (h : W.cell? a = some v) : (((((((((((((W.alloc o1).alloc o2).alloc o3).alloc o4).alloc o5).alloc o6).alloc o7).alloc o8).alloc o9).alloc o10).alloc o11).alloc o12).alloc o13).cell? a = some v := (cell_a1 (lt_a1 (lt_a1 (lt_a1 (lt_a1 (lt_a1 (lt_a1 (lt_a1 (lt_a1 (lt_a1 (lt_a1 (lt_a1 (lt_a1 ha)))))))))))) (cell_a1 (lt_a1 (lt_a1 (lt_a1 (lt_a1 (lt_a1 (lt_a1 (lt_a1 (lt_a1 (lt_a1 (lt_a1 (lt_a1 ha))))))))))) (cell_a1 (lt_a1 (lt_a1 (lt_a1 (lt_a1 (lt_a1 (lt_a1 (lt_a1 (lt_a1 (lt_a1 (lt_a1 ha)))))))))) (cell_a1 (lt_a1 (lt_a1 (lt_a1 (lt_a1 (lt_a1 (lt_a1 (lt_a1 (lt_a1 (lt_a1 ha))))))))) (cell_a1 (lt_a1 (lt_a1 (lt_a1 (lt_a1 (lt_a1 (lt_a1 (lt_a1 (lt_a1 ha)))))))) (cell_a1 (lt_a1 (lt_a1 (lt_a1 (lt_a1 (lt_a1 (lt_a1 (lt_a1 ha))))))) (cell_a1 (lt_a1 (lt_a1 (lt_a1 (lt_a1 (lt_a1 (lt_a1 ha)))))) (cell_a1 (lt_a1 (lt_a1 (lt_a1 (lt_a1 (lt_a1 ha))))) (cell_a1 (lt_a1 (lt_a1 (lt_a1 (lt_a1 ha)))) (cell_a1 (lt_a1 (lt_a1 (lt_a1 ha))) (cell_a1 (lt_a1 (lt_a1 ha)) (cell_a1 (lt_a1 ha) (cell_a1 ha h)))))))))))))
end Go.Proofs.YbulkfsaFmt
