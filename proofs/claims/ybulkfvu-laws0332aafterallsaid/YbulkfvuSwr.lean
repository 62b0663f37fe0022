/-
  slices.swapRangeCmpFunc (17): two blocks of n change places.
-/
import Derived.Test.YbulkfvuMem
namespace Go.Proofs.Ybulkfvu
open Go.RowKit
open Pl (M sw swp)

set_option maxRecDepth 100000 in
set_option maxHeartbeats 1000000 in
theorem swr_any (w0 : World) (B N x y n : Nat) (d : Nat → M) (f : Value) (W : World) (hN : N ≤ 1024) (h1 : x + n ≤ y) (h2 : y + n ≤ N) (hst : St w0 B N d W) :
    Calls Yba.prog 17 #[.slice (some ⟨B, 0, none⟩) N N, .int .i64 x, .int .i64 y, .int .i64 n, f] W fun e w' => e = .returned (.tuple #[]) ∧ St w0 B N (swp d x y n) w' := by
  go_enter Yba.func17, Yba.ntmps17
  go_wp2
  go_loopw [10] (fun i w => ∃ k : Nat, k ≤ n ∧ i = .int .i64 (k : Int) ∧ St w0 B N (swp d x y k) w) (fun i _ => n - (intOf i).toNat)
  case atStart => exact ⟨0, by omega, rfl, hst.eq (Pl.swp_zero d x y).symm⟩
  case round =>
    clear hst
    obtain ⟨k, hk, rfl, st⟩ := hrel
    by_cases hlt : k < n
    · have fr := st.fr
      have a0 := st.c0 (x + k) (by omega)
      have a1 := st.c1 (x + k) (by omega)
      have a2 := st.c2 (x + k) (by omega)
      have b0 := st.c0 (y + k) (by omega)
      have b1 := st.c1 (y + k) (by omega)
      have b2 := st.c2 (y + k) (by omega)
      have S := st.swap (x + k) (y + k) (by omega) (by omega) (by omega)
      rw [Pl.swp_succ d x y k (by omega)] at S
      generalize swp d x y k (x + k) = p at *
      generalize swp d x y k (y + k) = q at *
      go_wp2
      go_region
      go_wp2
      go_roundw
      case rel => exact ⟨k + 1, by omega, by go_num, S.drew⟩
      case measure => simp [intOf]; omega
    · obtain rfl : k = n := by omega
      go_wp2
      go_end0
      exact ⟨rfl, st⟩
end Go.Proofs.Ybulkfvu
