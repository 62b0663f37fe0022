/-
  WHAT THE ROWS' CONDITION 'laid' GIVES THE WALKS of seat b0325aD (the table math/bits.deBruijn64tab in its variable), and a start that meets it (the heap that the door's own run leaves).
-/
import Derived.Test.YbulkfsaDoorWalks1
import Derived.Lib.LaidTab
import Derived.LaidMore
import Derived.Stop.Joined
namespace Go.Proofs.YbulkfsaDoor
open Go.ChangeShapes Go.WideShapes Go.ChangeAt Go.RowKit

/-- The two rows' list (it is one and the same). -/
def laid2 : List (String × DataW Unit) := Rows.lawS0325BSizeRow.laid
/-- The second listed variable's name. -/
def nameB : String := Rows.lawS0325BSizeRow.named.getD 1 ""

theorem own : ownKnob Ybad.prog.godebug = none := by kernel_rfl
theorem gB : Ybad.prog.globalNamed nameB = some 1 := by kernel_rfl
theorem tB : (Ybad.prog.globals[1]?).map (·.type) = some 38 := by kernel_rfl
theorem dB : (Rows.laid_math_bits_deBruijn64tab : DataW Unit) = Lib.tabData .u8 (Lib.deBruijn64tab.map fun n : Nat => (n : Int)) := by kernel_rfl

theorem door_met (os : Os) (args : Array Value) : laidMetH Ybad.prog laid2 ((World.doorLaid Ybad.prog 19 os).forCall (fun _ _ => 0) ⟨#[], args, []⟩).memory :=
  laidMetH_of_parts3 (fuel := 8) (laidMet_of_run' 8 (by kernel_rfl) (by kernel_rfl)) (by kernel_rfl) (by kernel_rfl)

theorem tab_of_laid {W : World} (h : laidMetH Ybad.prog laid2 W) : TabAt 1 Lib.deBruijn64tab W := by
  rw [MakeChecks.laidMetH_plain _ _ _ (by kernel_rfl)] at h
  obtain ⟨ps, ⟨g0, t0, cs0, f0, p0, q0, hg0, ht0, hv0, hd0, ⟨g1, t1, cs1, f1, p1, q1, hg1, ht1, hv1, hd1, _, _⟩, _⟩, _, _⟩ := h
  obtain rfl := Option.some.inj (gB.symm.trans hg1)
  obtain rfl := Option.some.inj (tB.symm.trans ht1)
  rw [dB] at hd1
  have c5 : Ybad.prog.cellsOf 5 = 1 := by kernel_rfl
  have c38 : Ybad.prog.cellsOf 38 = 64 := by kernel_rfl
  have e := Lib.cells_of_tab Ybad.underlying38 Ybad.underlying5 c5 c38 hd1
  have hT : Lib.TabIs Ybad.prog W nameB .u8 (Lib.deBruijn64tab.map fun n : Nat => (n : Int)) := by
    show World.var? Ybad.prog W nameB = _
    rw [← e]
    exact hv1
  intro j hj
  have hc := hT.cell gB j (by simpa using hj)
  rw [hc]
  simp [List.getD, hj]

theorem size_of_tab {W : World} (h : TabAt 1 Lib.deBruijn64tab W) : 1 < W.heap.size := by
  have h0 := h 0 (by decide)
  rcases Nat.lt_or_ge 1 W.heap.size with h1 | h1
  · exact h1
  · exfalso
    have : W.heap[1]? = none := by simp; omega
    simp [World.cell?, this] at h0
end Go.Proofs.YbulkfsaDoor
