/-
  THE LAW's TWO CLOSURES: LawS0325AStandIns$1 (5) and $2 (6), over whatever world: the captured variables lie at ⟨b, 0, none⟩.
-/
import Derived.Test.YbulkfsaFmtNils
import Derived.WalkSpells
import Derived.WalkLawsBesides
import Derived.RegionTactic
import Derived.Laws.Pointers
import Derived.Laws.EntriesVeiled
namespace Go.Proofs.YbulkfsaFmt
open Go.RowKit
attribute [local go_sem] nil26 nil25 fun26 fun25 sl29

theorem clo5_ok (b1 b2 b3 b4 b5 : Nat) (pr : Int) (W : World) (n12 : b1 ≠ b2) (n13 : b1 ≠ b3) (n23 : b2 ≠ b3) (n14 : b1 ≠ b4) (n24 : b2 ≠ b4) (n34 : b3 ≠ b4)
    (h1 : W.cell? ⟨b1, 0, none⟩ = some (.int .i64 0)) (h2 : W.cell? ⟨b2, 0, none⟩ = some (.bool true)) (h3 : W.cell? ⟨b3, 0, none⟩ = some (.int .i64 0)) (h4 : W.cell? ⟨b4, 0, none⟩ = some (.bool false))
    (f1 : W.frozen? ⟨b1, 0, none⟩ = false) (f2 : W.frozen? ⟨b2, 0, none⟩ = false) (f3 : W.frozen? ⟨b3, 0, none⟩ = false) :
    Calls Ybaf.prog 5 #[.slice none 0 0, .int .i64 pr, .pointer (some ⟨b1, 0, none⟩), .pointer (some ⟨b2, 0, none⟩), .pointer (some ⟨b3, 0, none⟩), .pointer (some ⟨b4, 0, none⟩), .pointer (some ⟨b5, 0, none⟩)] W
      fun e w' => e = .returned (.tuple #[.nilIface, .nilIface]) ∧ w' = ((W.setCell ⟨b1, 0, none⟩ (.int .i64 1)).setCell ⟨b2, 0, none⟩ (.bool true)).setCell ⟨b3, 0, none⟩ (.int .i64 pr) := by
  go_enter Ybaf.func5, Ybaf.ntmps5
  go_wp2
  go_ret2
  exact ⟨rfl, rfl⟩

theorem clo5_fail (b1 b2 b3 b4 b5 : Nat) (pr : Int) (x : Addr) (W : World) (n12 : b1 ≠ b2) (n13 : b1 ≠ b3) (n23 : b2 ≠ b3) (n14 : b1 ≠ b4) (n24 : b2 ≠ b4) (n34 : b3 ≠ b4) (n15 : b1 ≠ b5) (n25 : b2 ≠ b5) (n35 : b3 ≠ b5)
    (h1 : W.cell? ⟨b1, 0, none⟩ = some (.int .i64 0)) (h2 : W.cell? ⟨b2, 0, none⟩ = some (.bool true)) (h3 : W.cell? ⟨b3, 0, none⟩ = some (.int .i64 0)) (h4 : W.cell? ⟨b4, 0, none⟩ = some (.bool true)) (h5 : W.cell? ⟨b5, 0, none⟩ = some (.iface 34 (.pointer (some x))))
    (f1 : W.frozen? ⟨b1, 0, none⟩ = false) (f2 : W.frozen? ⟨b2, 0, none⟩ = false) (f3 : W.frozen? ⟨b3, 0, none⟩ = false) :
    Calls Ybaf.prog 5 #[.slice none 0 0, .int .i64 pr, .pointer (some ⟨b1, 0, none⟩), .pointer (some ⟨b2, 0, none⟩), .pointer (some ⟨b3, 0, none⟩), .pointer (some ⟨b4, 0, none⟩), .pointer (some ⟨b5, 0, none⟩)] W
      fun e w' => e = .returned (.tuple #[.nilIface, .iface 34 (.pointer (some x))]) ∧ w' = (((W.setCell ⟨b1, 0, none⟩ (.int .i64 1)).setCell ⟨b2, 0, none⟩ (.bool true)).setCell ⟨b3, 0, none⟩ (.int .i64 pr)).drew := by
  go_enter Ybaf.func5, Ybaf.ntmps5
  go_wp2
  go_region
  all_goals (try go_wp2)
  all_goals (go_ret2; exact ⟨rfl, rfl⟩)

theorem clo6_ok (b1 b2 b3 b4 b5 : Nat) (k pr : Int) (W : World) (n12 : b1 ≠ b2) (n13 : b1 ≠ b3) (n23 : b2 ≠ b3) (n14 : b1 ≠ b4) (n24 : b2 ≠ b4) (n34 : b3 ≠ b4)
    (h1 : W.cell? ⟨b1, 0, none⟩ = some (.int .i64 0)) (h2 : W.cell? ⟨b2, 0, none⟩ = some (.int .i64 0)) (h3 : W.cell? ⟨b3, 0, none⟩ = some (.int .i64 0)) (h4 : W.cell? ⟨b4, 0, none⟩ = some (.bool false))
    (f1 : W.frozen? ⟨b1, 0, none⟩ = false) (f2 : W.frozen? ⟨b2, 0, none⟩ = false) (f3 : W.frozen? ⟨b3, 0, none⟩ = false) :
    Calls Ybaf.prog 6 #[.int .i64 k, .int .i64 pr, .pointer (some ⟨b1, 0, none⟩), .pointer (some ⟨b2, 0, none⟩), .pointer (some ⟨b3, 0, none⟩), .pointer (some ⟨b4, 0, none⟩), .pointer (some ⟨b5, 0, none⟩)] W
      fun e w' => e = .returned .nilIface ∧ w' = ((W.setCell ⟨b1, 0, none⟩ (.int .i64 1)).setCell ⟨b2, 0, none⟩ (.int .i64 k)).setCell ⟨b3, 0, none⟩ (.int .i64 pr) := by
  go_enter Ybaf.func6, Ybaf.ntmps6
  go_wp2
  go_ret
  exact ⟨rfl, rfl⟩

theorem clo6_fail (b1 b2 b3 b4 b5 : Nat) (k pr : Int) (x : Addr) (W : World) (n12 : b1 ≠ b2) (n13 : b1 ≠ b3) (n23 : b2 ≠ b3) (n14 : b1 ≠ b4) (n24 : b2 ≠ b4) (n34 : b3 ≠ b4) (n15 : b1 ≠ b5) (n25 : b2 ≠ b5) (n35 : b3 ≠ b5)
    (h1 : W.cell? ⟨b1, 0, none⟩ = some (.int .i64 0)) (h2 : W.cell? ⟨b2, 0, none⟩ = some (.int .i64 0)) (h3 : W.cell? ⟨b3, 0, none⟩ = some (.int .i64 0)) (h4 : W.cell? ⟨b4, 0, none⟩ = some (.bool true)) (h5 : W.cell? ⟨b5, 0, none⟩ = some (.iface 34 (.pointer (some x))))
    (f1 : W.frozen? ⟨b1, 0, none⟩ = false) (f2 : W.frozen? ⟨b2, 0, none⟩ = false) (f3 : W.frozen? ⟨b3, 0, none⟩ = false) :
    Calls Ybaf.prog 6 #[.int .i64 k, .int .i64 pr, .pointer (some ⟨b1, 0, none⟩), .pointer (some ⟨b2, 0, none⟩), .pointer (some ⟨b3, 0, none⟩), .pointer (some ⟨b4, 0, none⟩), .pointer (some ⟨b5, 0, none⟩)] W
      fun e w' => e = .returned (.iface 34 (.pointer (some x))) ∧ w' = ((W.setCell ⟨b1, 0, none⟩ (.int .i64 1)).setCell ⟨b2, 0, none⟩ (.int .i64 k)).setCell ⟨b3, 0, none⟩ (.int .i64 pr) := by
  go_enter Ybaf.func6, Ybaf.ntmps6
  go_wp2
  go_ret
  exact ⟨rfl, rfl⟩
end Go.Proofs.YbulkfsaFmt
