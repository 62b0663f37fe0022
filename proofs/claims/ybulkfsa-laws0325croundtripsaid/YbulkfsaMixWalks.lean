/-
  THE WALKS of seat b0325a: splitMixOutput (7), zzs0325cunshift (8), zzs0325cinv (9), zzs0325cundo (6): each computes the plain function of YbulkfsaMixPlain.
-/
import Derived.Test.YbulkfsaRows
import Derived.Test.YbulkfsaMixPlain
import Derived.WalkKit
import Derived.ProofKit
import Derived.OpenShut
import Derived.ShutString
import Derived.WalkLawsBesides
import Derived.Laws.Bits64
namespace Go.Proofs.Ybulkfsa
open Go.ChangeShapes Go.WideShapes Go.ChangeAt Go.RowKit

theorem ret_u64 {a b : Int} (h : a = b) : Ending.returned (.int .u64 a) = .returned (.int .u64 b) := by rw [h]

theorem xs_step (X s p : Nat) (hp : p = 2 ^ s) (hX : X < 18446744073709551616) : bits .xor .u64 (X : Int) ((X : Int) / (p : Int)) = ((Mix.xs s X : Nat) : Int) := by
  subst hp; exact xorShift_u64 X (2 ^ s) hX
theorem mul_step (a c : Nat) : IntKind.u64.wrap ((a : Int) * (c : Int)) = ((Mix.mul a c : Nat) : Int) := by
  rw [IntKind.wrap_u64]; unfold Mix.mul; rw [Int.natCast_emod, Int.natCast_mul]; rfl

theorem lit1 : ((1073741824 : Nat) : Int) = 1073741824 := rfl
theorem lit2 : ((13787848793156543929 : Nat) : Int) = 13787848793156543929 := rfl
theorem lit3 : ((134217728 : Nat) : Int) = 134217728 := rfl
theorem lit4 : ((10723151780598845931 : Nat) : Int) = 10723151780598845931 := rfl
theorem lit5 : ((2147483648 : Nat) : Int) = 2147483648 := rfl

theorem mix_eq (z : Nat) (hz : z < 18446744073709551616) :
    bits BinOp.xor IntKind.u64 (IntKind.u64.wrap (bits BinOp.xor IntKind.u64 (IntKind.u64.wrap (bits BinOp.xor IntKind.u64 z ((z : Int) / 1073741824) * 13787848793156543929)) (IntKind.u64.wrap (bits BinOp.xor IntKind.u64 z ((z : Int) / 1073741824) * 13787848793156543929) / 134217728) * 10723151780598845931))
      (IntKind.u64.wrap (bits BinOp.xor IntKind.u64 (IntKind.u64.wrap (bits BinOp.xor IntKind.u64 z ((z : Int) / 1073741824) * 13787848793156543929)) (IntKind.u64.wrap (bits BinOp.xor IntKind.u64 z ((z : Int) / 1073741824) * 13787848793156543929) / 134217728) * 10723151780598845931) / 2147483648)
      = ((Mix.mixN z : Nat) : Int) := by
  have e1 := xs_step z 30 1073741824 (by decide) hz
  have e2 := mul_step (Mix.xs 30 z) 13787848793156543929
  have e3 := xs_step (Mix.mul (Mix.xs 30 z) 13787848793156543929) 27 134217728 (by decide) (Mix.mul_lt _ _)
  have e4 := mul_step (Mix.xs 27 (Mix.mul (Mix.xs 30 z) 13787848793156543929)) 10723151780598845931
  have e5 := xs_step (Mix.mul (Mix.xs 27 (Mix.mul (Mix.xs 30 z) 13787848793156543929)) 10723151780598845931) 31 2147483648 (by decide) (Mix.mul_lt _ _)
  simp only [lit1, lit2, lit3, lit4, lit5] at e1 e2 e3 e4 e5
  rw [e1, e2, e3, e4, e5]
  rfl

/-- splitMixOutput. -/
theorem mix_any (z : Nat) (hz : z < 18446744073709551616) (w : World) :
    Calls Yba.prog 7 #[.int .u64 (z : Int)] w fun e w' => e = .returned (.int .u64 ((Mix.mixN z : Nat) : Int)) ∧ w' = w := by
  go_enter Yba.func7, Yba.ntmps7
  go_wp2
  go_ret
  exact ⟨ret_u64 (mix_eq z hz), rfl⟩

theorem inj_walk (a b : Nat) (ha : a < 18446744073709551616) (hb : b < 18446744073709551616) (w : World) :
    Calls Yba.prog 4 #[.int .u64 (a : Int), .int .u64 (b : Int)] w fun e w' => e = .returned (.bool true) ∧ Grown w w' := by
  by_cases h : a = b
  · subst h
    go_enter Yba.func4, Yba.ntmps4
    go_wp2_with (go_at_call 7; refine (mix_any _ (by omega) _).mono ?_; rintro e w' ⟨rfl, rfl⟩)
    go_ret
    exact ⟨rfl, Grown.refl _⟩
  · have h1 : (((Mix.mixN a : Nat) : Int) == ((Mix.mixN b : Nat) : Int)) = false := by
      rw [beq_eq_false_iff_ne]; intro e; exact h (Mix.mix_inj a b ha hb (by omega))
    have h2 : ((a : Int) == (b : Int)) = false := by rw [beq_eq_false_iff_ne]; omega
    go_enter Yba.func4, Yba.ntmps4
    go_wp2_with (go_at_call 7; refine (mix_any _ (by omega) _).mono ?_; rintro e w' ⟨rfl, rfl⟩)
    go_ret
    exact ⟨rfl, Grown.refl _⟩
end Go.Proofs.Ybulkfsa
