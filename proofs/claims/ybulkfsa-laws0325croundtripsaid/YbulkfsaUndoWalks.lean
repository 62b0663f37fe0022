/-
  THE WALKS of zzs0325cunshift (8), zzs0325cinv (9), zzs0325cundo (6) and of clockwise.LawS0325CRoundTrip (3).
-/
import Derived.Test.YbulkfsaMixWalks
namespace Go.Proofs.Ybulkfsa
open Go.ChangeShapes Go.WideShapes Go.ChangeAt Go.RowKit

theorem un_step (y s p k : Nat) (hp : p = 2 ^ s) (hy : y < 18446744073709551616) :
    bits .xor .u64 (y : Int) (((Mix.un y s k : Nat) : Int) / (p : Int)) = ((Mix.un y s (k + 1) : Nat) : Int) := by
  subst hp
  have h := Mix.un_lt y s hy k
  have d : (((Mix.un y s k : Nat) : Int) / ((2 ^ s : Nat) : Int)) = ((Mix.un y s k / 2 ^ s : Nat) : Int) := (Int.natCast_ediv _ _).symm
  rw [d]
  exact bits_xor_u64_nat _ _ hy (Nat.lt_of_le_of_lt (Nat.div_le_self _ _) h)

theorem un31 (y k : Nat) (hy : y < 18446744073709551616) : bits .xor .u64 (y : Int) (((Mix.un y 31 k : Nat) : Int) / 2147483648) = ((Mix.un y 31 (k + 1) : Nat) : Int) := un_step y 31 2147483648 k (by decide) hy
theorem un27 (y k : Nat) (hy : y < 18446744073709551616) : bits .xor .u64 (y : Int) (((Mix.un y 27 k : Nat) : Int) / 134217728) = ((Mix.un y 27 (k + 1) : Nat) : Int) := un_step y 27 134217728 k (by decide) hy
theorem un30 (y k : Nat) (hy : y < 18446744073709551616) : bits .xor .u64 (y : Int) (((Mix.un y 30 k : Nat) : Int) / 1073741824) = ((Mix.un y 30 (k + 1) : Nat) : Int) := un_step y 30 1073741824 k (by decide) hy

theorem val_u64 {a b : Int} (h : a = b) : Value.int .u64 a = .int .u64 b := by rw [h]

theorem unshift31 (y : Nat) (hy : y < 18446744073709551616) (w : World) :
    Calls Yba.prog 8 #[.int .u64 (y : Int), .int .u64 31] w fun e w' => e = .returned (.int .u64 ((Mix.un y 31 64 : Nat) : Int)) ∧ w' = w := by
  go_enter Yba.func8, Yba.ntmps8
  go_wp2
  go_loop [5, 6] (fun z i => ∃ k : Nat, k ≤ 64 ∧ i = .int .i64 k ∧ z = .int .u64 ((Mix.un y 31 k : Nat) : Int)) (fun _ i => 64 - (intOf i).toNat)
  case atStart => exact ⟨0, by omega, rfl, rfl⟩
  case round =>
    obtain ⟨k, hk, rfl, rfl⟩ := hrel
    by_cases hlt : k < 64
    · go_wp2
      go_round
      case rel => exact ⟨k + 1, by omega, by go_num, val_u64 (un31 y k hy)⟩
      case measure => simp [intOf]; omega
    · obtain rfl : k = 64 := by omega
      go_wp2
      go_ret
      exact ⟨rfl, rfl⟩

theorem unshift27 (y : Nat) (hy : y < 18446744073709551616) (w : World) :
    Calls Yba.prog 8 #[.int .u64 (y : Int), .int .u64 27] w fun e w' => e = .returned (.int .u64 ((Mix.un y 27 64 : Nat) : Int)) ∧ w' = w := by
  go_enter Yba.func8, Yba.ntmps8
  go_wp2
  go_loop [5, 6] (fun z i => ∃ k : Nat, k ≤ 64 ∧ i = .int .i64 k ∧ z = .int .u64 ((Mix.un y 27 k : Nat) : Int)) (fun _ i => 64 - (intOf i).toNat)
  case atStart => exact ⟨0, by omega, rfl, rfl⟩
  case round =>
    obtain ⟨k, hk, rfl, rfl⟩ := hrel
    by_cases hlt : k < 64
    · go_wp2
      go_round
      case rel => exact ⟨k + 1, by omega, by go_num, val_u64 (un27 y k hy)⟩
      case measure => simp [intOf]; omega
    · obtain rfl : k = 64 := by omega
      go_wp2
      go_ret
      exact ⟨rfl, rfl⟩

theorem unshift30 (y : Nat) (hy : y < 18446744073709551616) (w : World) :
    Calls Yba.prog 8 #[.int .u64 (y : Int), .int .u64 30] w fun e w' => e = .returned (.int .u64 ((Mix.un y 30 64 : Nat) : Int)) ∧ w' = w := by
  go_enter Yba.func8, Yba.ntmps8
  go_wp2
  go_loop [5, 6] (fun z i => ∃ k : Nat, k ≤ 64 ∧ i = .int .i64 k ∧ z = .int .u64 ((Mix.un y 30 k : Nat) : Int)) (fun _ i => 64 - (intOf i).toNat)
  case atStart => exact ⟨0, by omega, rfl, rfl⟩
  case round =>
    obtain ⟨k, hk, rfl, rfl⟩ := hrel
    by_cases hlt : k < 64
    · go_wp2
      go_round
      case rel => exact ⟨k + 1, by omega, by go_num, val_u64 (un30 y k hy)⟩
      case measure => simp [intOf]; omega
    · obtain rfl : k = 64 := by omega
      go_wp2
      go_ret
      exact ⟨rfl, rfl⟩

theorem inv_step (c k : Nat) :
    IntKind.u64.wrap (((Mix.inv c k : Nat) : Int) * IntKind.u64.wrap (2 - IntKind.u64.wrap ((c : Int) * ((Mix.inv c k : Nat) : Int)))) = ((Mix.inv c (k + 1) : Nat) : Int) := by
  simp only [IntKind.wrap_u64, Mix.inv]
  generalize Mix.inv c k = x
  have e1 : ((c : Int) * (x : Int)) % 18446744073709551616 = ((c * x % 18446744073709551616 : Nat) : Int) := by
    rw [Int.natCast_emod, Int.natCast_mul]; rfl
  rw [e1]
  have hm : c * x % 18446744073709551616 < 18446744073709551616 := Nat.mod_lt _ (by decide)
  generalize c * x % 18446744073709551616 = m at hm
  have e2 : ((2 : Int) - (m : Int)) % 18446744073709551616 = (((18446744073709551616 + 2 - m) % 18446744073709551616 : Nat) : Int) := by omega
  rw [e2]
  generalize (18446744073709551616 + 2 - m) % 18446744073709551616 = q
  rw [Int.natCast_emod, Int.natCast_mul]; rfl

theorem inv_any (c : Nat) (w : World) :
    Calls Yba.prog 9 #[.int .u64 (c : Int)] w fun e w' => e = .returned (.int .u64 ((Mix.inv c 6 : Nat) : Int)) ∧ w' = w := by
  go_enter Yba.func9, Yba.ntmps9
  go_wp2
  go_loop [3, 4] (fun z i => ∃ k : Nat, k ≤ 6 ∧ i = .int .i64 k ∧ z = .int .u64 ((Mix.inv c k : Nat) : Int)) (fun _ i => 6 - (intOf i).toNat)
  case atStart => exact ⟨0, by omega, rfl, rfl⟩
  case round =>
    obtain ⟨k, hk, rfl, rfl⟩ := hrel
    by_cases hlt : k < 6
    · go_wp2
      go_round
      case rel => exact ⟨k + 1, by omega, by go_num, val_u64 (inv_step c k)⟩
      case measure => simp [intOf]; omega
    · obtain rfl : k = 6 := by omega
      go_wp2
      go_ret
      exact ⟨rfl, rfl⟩

theorem inv_c2 (w : World) : Calls Yba.prog 9 #[.int .u64 10723151780598845931] w fun e w' => e = .returned (.int .u64 ((Mix.inv 10723151780598845931 6 : Nat) : Int)) ∧ w' = w := inv_any 10723151780598845931 w
theorem inv_c1 (w : World) : Calls Yba.prog 9 #[.int .u64 13787848793156543929] w fun e w' => e = .returned (.int .u64 ((Mix.inv 13787848793156543929 6 : Nat) : Int)) ∧ w' = w := inv_any 13787848793156543929 w

theorem undo_any (y : Nat) (hy : y < 18446744073709551616) (w : World) :
    Calls Yba.prog 6 #[.int .u64 (y : Int)] w fun e w' => e = .returned (.int .u64 ((Mix.undoN y : Nat) : Int)) ∧ w' = w := by
  go_enter Yba.func6, Yba.ntmps6
  go_wp2_with fail
  refine (unshift31 y hy _).mono ?_
  rintro e w' ⟨rfl, rfl⟩
  go_wp2_with fail
  refine (inv_c2 _).mono ?_
  rintro e w' ⟨rfl, rfl⟩
  go_wp2_with fail
  simp only [mul_step]
  refine (unshift27 _ (Mix.mul_lt _ _) _).mono ?_
  rintro e w' ⟨rfl, rfl⟩
  go_wp2_with fail
  refine (inv_c1 _).mono ?_
  rintro e w' ⟨rfl, rfl⟩
  go_wp2_with fail
  simp only [mul_step]
  refine (unshift30 _ (Mix.mul_lt _ _) _).mono ?_
  rintro e w' ⟨rfl, rfl⟩
  go_wp2
  go_ret
  exact ⟨rfl, rfl⟩

theorem trip_walk (z : Nat) (hz : z < 18446744073709551616) (w : World) :
    Calls Yba.prog 3 #[.int .u64 (z : Int)] w fun e w' => e = .returned (.bool true) ∧ Grown w w' := by
  go_enter Yba.func3, Yba.ntmps3
  go_wp2_with fail
  refine (mix_any z hz _).mono ?_
  rintro e w' ⟨rfl, rfl⟩
  go_wp2_with fail
  refine (undo_any _ (Mix.mixN_lt z) _).mono ?_
  rintro e w' ⟨rfl, rfl⟩
  rw [Mix.undo_mix z hz]
  go_wp2
  go_ret
  exact ⟨rfl, Grown.refl _⟩
end Go.Proofs.Ybulkfsa
