/-
  THE WALK of clockwise.LawS0325CVectors.
-/
import Derived.Test.YbulkfsaMixWalks
namespace Go.Proofs.Ybulkfsa
open Go.ChangeShapes Go.WideShapes Go.ChangeAt Go.RowKit

theorem mix_v0 (w : World) : Calls Yba.prog 7 #[.int .u64 11400714819323198485] w fun e w' => e = .returned (.int .u64 16294208416658607535) ∧ w' = w := by
  have h := mix_any 11400714819323198485 (by decide) w
  rw [show Mix.mixN 11400714819323198485 = 16294208416658607535 from Mix.vec0] at h
  exact h
theorem mix_v1 (w : World) : Calls Yba.prog 7 #[.int .u64 4354685564936845354] w fun e w' => e = .returned (.int .u64 7960286522194355700) ∧ w' = w := by
  have h := mix_any 4354685564936845354 (by decide) w
  rw [show Mix.mixN 4354685564936845354 = 7960286522194355700 from Mix.vec1] at h
  exact h
theorem mix_v2 (w : World) : Calls Yba.prog 7 #[.int .u64 0] w fun e w' => e = .returned (.int .u64 0) ∧ w' = w := by
  have h := mix_any 0 (by decide) w
  rw [Mix.vec2] at h
  exact h

theorem vec_walk (a : Int) (h0 : 0 ≤ a) (h1 : a ≤ 255) (w : World) :
    Calls Yba.prog 5 #[.int .u8 a] w fun e w' => e = .returned (.bool true) ∧ Grown w w' := by
  have hc : a % 3 = 0 ∨ a % 3 = 1 ∨ a % 3 = 2 := by omega
  rcases hc with h | h | h
  · go_enter Yba.func5, Yba.ntmps5
    go_wp2_with fail
    refine (mix_v0 _).mono ?_
    rintro e w' ⟨rfl, rfl⟩
    go_wp2
    go_ret
    exact ⟨rfl, Grown.refl _⟩
  · go_enter Yba.func5, Yba.ntmps5
    go_wp2_with fail
    refine (mix_v1 _).mono ?_
    rintro e w' ⟨rfl, rfl⟩
    go_wp2
    go_ret
    exact ⟨rfl, Grown.refl _⟩
  · go_enter Yba.func5, Yba.ntmps5
    go_wp2_with fail
    refine (mix_v2 _).mono ?_
    rintro e w' ⟨rfl, rfl⟩
    go_wp2
    go_ret
    exact ⟨rfl, Grown.refl _⟩
end Go.Proofs.Ybulkfsa
