/-
  slices.rotateCmpFunc (16): [a, m) and [m, b) change places.
-/
import Derived.Test.YbulkfvuSwr
namespace Go.Proofs.Ybulkfvu
open Go.RowKit
open Pl (M sw swp rot)

theorem val_i64 {a b : Int} (h : a = b) : Value.int .i64 a = .int .i64 b := by rw [h]

theorem swr_int (w0 : World) (B N : Nat) (X Y Z : Int) (x y n : Nat) (hX : X = (x : Int)) (hY : Y = (y : Int)) (hZ : Z = (n : Int)) (d : Nat → M) (f : Value) (W : World) (hN : N ≤ 1024) (h1 : x + n ≤ y) (h2 : y + n ≤ N) (hst : St w0 B N d W) :
    Calls Yba.prog 17 #[.slice (some ⟨B, 0, none⟩) N N, .int .i64 X, .int .i64 Y, .int .i64 Z, f] W fun e w' => e = .returned (.tuple #[]) ∧ St w0 B N (swp d x y n) w' := by
  subst hX hY hZ
  exact swr_any w0 B N x y n d f W hN h1 h2 hst

set_option maxRecDepth 100000 in
set_option maxHeartbeats 1000000 in
theorem rot_any (w0 : World) (B N a m b : Nat) (d : Nat → M) (f : Value) (W : World) (hN : N ≤ 1024) (h1 : a < m) (h2 : m < b) (h3 : b ≤ N) (hst : St w0 B N d W) :
    Calls Yba.prog 16 #[.slice (some ⟨B, 0, none⟩) N N, .int .i64 a, .int .i64 m, .int .i64 b, f] W fun e w' => e = .returned (.tuple #[]) ∧ St w0 B N (rot d a m b) w' := by
  have st0 : ∃ d', St w0 B N d' W ∧ rot d' (m - (m - a)) m (m + (b - m)) = rot d a m b := ⟨d, hst, by rw [show m - (m - a) = a from by omega, show m + (b - m) = b from by omega]⟩
  clear hst
  go_enter Yba.func16, Yba.ntmps16
  go_wp2
  go_loopw [10, 11] (fun p q w => ∃ i j : Nat, 0 < i ∧ 0 < j ∧ i ≤ m ∧ m + j ≤ N ∧ p = .int .i64 (i : Int) ∧ q = .int .i64 (j : Int) ∧ ∃ d', St w0 B N d' w ∧ rot d' (m - i) m (m + j) = rot d a m b) (fun p q _ => (intOf p).toNat + (intOf q).toNat)
  case atStart =>
    obtain ⟨d', s1, s2⟩ := st0
    exact ⟨m - a, b - m, by omega, by omega, by omega, by omega, by congr 1; omega, by congr 1; omega, d', s1, s2⟩
  case round =>
    clear st0
    obtain ⟨i, j, i0, j0, hi, hj, rfl, rfl, d', s1, s2⟩ := hrel
    have S2 : Hid (rot d' (m - i) m (m + j) = rot d a m b) := s2
    clear s2
    rcases Nat.lt_trichotomy i j with hc | hc | hc
    · have hne : ((i : Int) != (j : Int)) = true := by rw [bne_iff_ne]; omega
      go_wp2_with fail
      refine (swr_int w0 B N _ _ _ (m - i) (m + j - i) i (by omega) (by omega) rfl d' f _ hN (by omega) (by omega) s1).mono ?_
      rintro e w' ⟨rfl, s3⟩
      go_wp2
      go_roundw
      case rel => exact ⟨i, j - i, i0, by omega, hi, by omega, rfl, val_i64 (by omega), _, s3, (Pl.rot_lt d' m i j hc hi).trans S2.out⟩
      case measure => simp [intOf]; omega
    · subst hc
      have hne : ((i : Int) != (i : Int)) = false := by simp
      go_wp2_with fail
      refine (swr_int w0 B N _ _ _ (m - i) m i (by omega) rfl rfl d' f _ hN (by omega) (by omega) s1).mono ?_
      rintro e w' ⟨rfl, s3⟩
      go_wp2
      go_end0
      exact ⟨rfl, s3.eq ((Pl.rot_eq d' m i hi).trans S2.out)⟩
    · have hne : ((i : Int) != (j : Int)) = true := by rw [bne_iff_ne]; omega
      go_wp2_with fail
      refine (swr_int w0 B N _ _ _ (m - i) m j (by omega) rfl rfl d' f _ hN (by omega) (by omega) s1).mono ?_
      rintro e w' ⟨rfl, s3⟩
      go_wp2
      go_roundw
      case rel => exact ⟨i - j, j, by omega, j0, by omega, hj, val_i64 (by omega), rfl, _, s3, (Pl.rot_gt d' m i j hc hi).trans S2.out⟩
      case measure => simp [intOf]; omega
end Go.Proofs.Ybulkfvu
