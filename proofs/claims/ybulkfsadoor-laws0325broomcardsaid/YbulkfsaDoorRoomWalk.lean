/-
  THE WALK of clockwise.LawS0325BRoom.
-/
import Derived.Test.YbulkfsaDoorWalks1
namespace Go.Proofs.YbulkfsaDoor
open Go.ChangeShapes Go.WideShapes Go.ChangeAt Go.RowKit

theorem room_walk (n : Int) (b0 : -9223372036854775808 ≤ n) (b1 : n ≤ 9223372036854775807) (w : World) (hs : 1 < w.heap.size) (hT : TabAt 1 Lib.deBruijn64tab w) :
    Calls Ybad.prog 4 #[.int .i64 n] w fun e w' => e = .returned (.bool true) ∧ Grown w w' := by
  by_cases c0 : n < 0
  · clear hT
    go_enter Ybad.func4, Ybad.ntmps4
    go_wp2
    go_ret
    exact ⟨rfl, Grown.refl _⟩
  by_cases c1 : 1048576 < n
  · clear hT
    go_enter Ybad.func4, Ybad.ntmps4
    go_wp2
    go_ret
    exact ⟨rfl, Grown.refl _⟩
  obtain ⟨k, h4, h21, e1, e2⟩ := exp_of n (by omega) (by omega)
  obtain ⟨r1, r2, r3⟩ := room_of n k h4 e1 e2
  have hle := pw_le k h21
  have HN := new_any n k h4 h21 (by omega) (by omega) e1 e2 w hs hT
  clear hT e1 e2
  have c0' : 0 ≤ n := by omega
  have c1' : n ≤ 1048576 := by omega
  clear c0 c1
  by_cases c8 : 8 < n
  · have r4 := r2 c8
    clear r2
    go_enter Ybad.func4, Ybad.ntmps4
    go_wp2_with (go_at_call 5; refine HN.mono ?_; rintro e w' ⟨rfl, d1, d2, D, hD, rfl⟩)
    go_ret
    exact ⟨rfl, ((((Grown.refl _).alloc _ _).alloc _ _).alloc _ _).alloc _ _⟩
  · clear r2
    go_enter Ybad.func4, Ybad.ntmps4
    go_wp2_with (go_at_call 5; refine HN.mono ?_; rintro e w' ⟨rfl, d1, d2, D, hD, rfl⟩)
    go_ret
    exact ⟨rfl, ((((Grown.refl _).alloc _ _).alloc _ _).alloc _ _).alloc _ _⟩
end Go.Proofs.YbulkfsaDoor
