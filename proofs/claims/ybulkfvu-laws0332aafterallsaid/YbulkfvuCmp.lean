/-
  THE COMPARING CLOSURES: zzs0332abuild$1 (8) and newestBefore$1 (11): cmp.Compare of two points.
-/
import Derived.Test.YbulkfvuMem
namespace Go.Proofs.Ybulkfvu
open Go.RowKit

theorem compare_lt (x y : Int) (h : x < y) (W : World) : Calls Yba.prog 9 #[.int .i64 x, .int .i64 y] W fun e w' => e = .returned (.int .i64 (-1)) ∧ w' = W := by
  go_enter Yba.func9, Yba.ntmps9
  go_wp2
  go_ret
  exact ⟨rfl, rfl⟩
theorem compare_gt (x y : Int) (h : y < x) (W : World) : Calls Yba.prog 9 #[.int .i64 x, .int .i64 y] W fun e w' => e = .returned (.int .i64 1) ∧ w' = W := by
  have h' : ¬ x < y := by omega
  go_enter Yba.func9, Yba.ntmps9
  go_wp2
  go_ret
  exact ⟨rfl, rfl⟩
theorem compare_eq (x : Int) (W : World) : Calls Yba.prog 9 #[.int .i64 x, .int .i64 x] W fun e w' => e = .returned (.int .i64 0) ∧ w' = W := by
  go_enter Yba.func9, Yba.ntmps9
  go_wp2
  go_ret
  exact ⟨rfl, rfl⟩

/-- cmp.Compare, under a name. -/
def cmpI (x y : Int) : Int := if x < y then -1 else if y < x then 1 else 0
theorem cmpI_neg {x y : Int} (h : x < y) : cmpI x y < 0 := by unfold cmpI; rw [if_pos h]; omega
theorem cmpI_pos {x y : Int} (h : y ≤ x) : 0 ≤ cmpI x y := by unfold cmpI; rw [if_neg (by omega)]; split <;> omega
theorem compare_any (x y : Int) (W : World) : Calls Yba.prog 9 #[.int .i64 x, .int .i64 y] W fun e w' => e = .returned (.int .i64 (cmpI x y)) ∧ w' = W := by
  rcases Int.lt_trichotomy x y with h | h | h
  · have e : cmpI x y = -1 := by unfold cmpI; rw [if_pos h]
    rw [e]; exact compare_lt x y h W
  · subst h
    have e : cmpI x x = 0 := by unfold cmpI; rw [if_neg (by omega), if_neg (by omega)]
    rw [e]; exact compare_eq x W
  · have e : cmpI x y = 1 := by unfold cmpI; rw [if_neg (by omega), if_pos h]
    rw [e]; exact compare_gt x y h W

theorem clo8 (x xn y yn : Int) (xb yb : Bool) (W : World) :
    Calls Yba.prog 8 #[.agg #[.int .i64 x, .int .i64 xn, .bool xb], .agg #[.int .i64 y, .int .i64 yn, .bool yb]] W fun e w' =>
      e = .returned (.int .i64 (cmpI x y)) ∧ w' = (W.alloc (.cells #[.int .i64 x, .int .i64 xn, .bool xb] 29)).alloc (.cells #[.int .i64 y, .int .i64 yn, .bool yb] 29) := by
  go_enter Yba.func8, Yba.ntmps8
  go_wp2_with (go_at_call 9; refine (compare_any x y _).mono ?_; rintro e w' ⟨rfl, rfl⟩)
  go_ret
  exact ⟨rfl, rfl⟩
theorem clo11 (x xn y : Int) (xb : Bool) (W : World) :
    Calls Yba.prog 11 #[.agg #[.int .i64 x, .int .i64 xn, .bool xb], .int .i64 y] W fun e w' =>
      e = .returned (.int .i64 (cmpI x y)) ∧ w' = W.alloc (.cells #[.int .i64 x, .int .i64 xn, .bool xb] 29) := by
  go_enter Yba.func11, Yba.ntmps11
  go_wp2_with (go_at_call 9; refine (compare_any x y _).mono ?_; rintro e w' ⟨rfl, rfl⟩)
  go_ret
  exact ⟨rfl, rfl⟩
end Go.Proofs.Ybulkfvu
