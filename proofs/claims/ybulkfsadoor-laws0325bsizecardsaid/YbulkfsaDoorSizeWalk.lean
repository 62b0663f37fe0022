/-
  THE WALK of clockwise.LawS0325BSize.
-/
import Derived.Test.YbulkfsaDoorWalks1
namespace Go.Proofs.YbulkfsaDoor
open Go.ChangeShapes Go.WideShapes Go.ChangeAt Go.RowKit

theorem val_i64 {a b : Int} (h : a = b) : Value.int .i64 a = .int .i64 b := by rw [h]
theorem val_u64 {a b : Int} (h : a = b) : Value.int .u64 a = .int .u64 b := by rw [h]

set_option maxHeartbeats 1000000 in
theorem size_walk (n : Int) (b0 : -9223372036854775808 ≤ n) (b1 : n ≤ 9223372036854775807) (w : World) (hs : 1 < w.heap.size) (hT : TabAt 1 Lib.deBruijn64tab w) :
    Calls Ybad.prog 3 #[.int .i64 n] w fun e w' => e = .returned (.bool true) ∧ Grown w w' := by
  by_cases c0 : n < -1048576
  · clear hT
    go_enter Ybad.func3, Ybad.ntmps3
    go_wp2
    go_ret
    exact ⟨rfl, Grown.refl _⟩
  by_cases c1 : 1048576 < n
  · clear hT
    go_enter Ybad.func3, Ybad.ntmps3
    go_wp2
    go_ret
    exact ⟨rfl, Grown.refl _⟩
  have c0' : -1048576 ≤ n := by omega
  have c1' : n ≤ 1048576 := by omega
  have HT : Hid (TabAt 1 Lib.deBruijn64tab w) := hT
  clear c0 c1 b0 b1 hT
  go_enter Ybad.func3, Ybad.ntmps3
  go_wp2
  go_loop [3, 4] (fun p k => ∃ j : Nat, 4 ≤ j ∧ j ≤ 21 ∧ Hid (j = 4 ∨ (pw (j - 1) : Int) < 2 * n) ∧ p = .int .i64 (pw j : Int) ∧ k = .int .u64 (j : Int)) (fun p _ => 2097152 - (intOf p).toNat)
  case atStart => exact ⟨4, by omega, by omega, Or.inl rfl, rfl, rfl⟩
  case round =>
    obtain ⟨j, h4, h21, HJ, rfl, rfl⟩ := hrel
    have hle := pw_le j h21
    have hlo := pw_lo j h4
    by_cases hlt : (pw j : Int) < 2 * n
    · go_wp2
      go_round
      case rel =>
        refine ⟨j + 1, by omega, pw_lt j h21 (by omega), Or.inr (by simpa using hlt), val_i64 (by rw [pw_succ]; omega), val_u64 (by omega)⟩
      case measure => simp [intOf]; omega
    · have he := exp_found n j h4 HJ.out (by omega)
      have HN := new_any n j h4 h21 c0' c1' he.1 he.2 w hs HT.out
      have hlt' : 2 * n ≤ (pw j : Int) := by omega
      clear he hlt
      go_wp2_with (go_at_call 5; refine HN.mono ?_; rintro e w' ⟨rfl, d1, d2, D, hD, rfl⟩)
      have HD : Hid (∀ i, i < pw j → D[i]? = some (.int .u32 0)) := hD
      clear hD HN HT HJ
      go_loop [6] (fun i => ∃ m : Nat, m ≤ pw j ∧ i = .int .i64 (m : Int)) (fun i => pw j - (intOf i).toNat)
      case atStart => exact ⟨0, by omega, rfl⟩
      case round =>
        obtain ⟨m, hm, rfl⟩ := hrel
        by_cases hml : m < pw j
        · have hc := HD.out m hml
          go_wp2
          go_round
          case rel => exact ⟨m + 1, by omega, by go_num⟩
          case measure => simp [intOf]; omega
        · go_wp2
          go_ret
          exact ⟨rfl, ((((Grown.refl _).alloc _ _).alloc _ _).alloc _ _).alloc _ _⟩
end Go.Proofs.YbulkfsaDoor
