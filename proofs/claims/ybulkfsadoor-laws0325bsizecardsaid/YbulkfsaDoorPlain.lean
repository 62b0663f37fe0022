/-
  THE PLAIN FACTS of seat b0325aD: powers of two, bits.Len and bits.TrailingZeros at them. No Go in sight.
-/
import Derived.Lib.BitFns
import Derived.Lib.TrailingZeros
import Derived.RowKit
namespace Go.Proofs.YbulkfsaDoor
open Go.RowKit

/-- 2^j, behind a name. -/
def pw (j : Nat) : Nat := 2 ^ j
theorem pw_succ (j : Nat) : pw (j + 1) = pw j * 2 := Nat.pow_succ ..
theorem pw_le (j : Nat) (h : j ≤ 21) : pw j ≤ 2097152 := by
  have : 2 ^ j ≤ 2 ^ 21 := Nat.pow_le_pow_right (by decide) h
  simpa [pw] using this
theorem pw_lo (j : Nat) (h : 4 ≤ j) : 16 ≤ pw j := by
  have : 2 ^ 4 ≤ 2 ^ j := Nat.pow_le_pow_right (by decide) h
  simpa [pw] using this
theorem pw_21 : pw 21 = 2097152 := rfl
theorem pw_pred (j : Nat) (h : 4 ≤ j) : pw j = pw (j - 1) * 2 := by
  obtain ⟨i, rfl⟩ : ∃ i, j = i + 1 := ⟨j - 1, by omega⟩
  exact pw_succ i
/-- A further doubling keeps below 2^21. -/
theorem pw_lt (j : Nat) (hj : j ≤ 21) (h : pw j < 2097152) : j + 1 ≤ 21 := by
  rcases Nat.lt_or_ge j 21 with h' | h'
  · omega
  · obtain rfl : j = 21 := by omega
    rw [pw_21] at h; omega
theorem pw_wrap (j : Nat) (h : j ≤ 21) : wrap64 (2 ^ j) = (pw j : Int) := by
  have h1 := pw_le j h
  have e : ((2 : Int) ^ j) = (pw j : Int) := by simp [pw]
  rw [e]; unfold wrap64; omega
theorem ctz_pw : ∀ j, j < 22 → Lib.ctz 64 (pw j) = j := by decide +kernel
theorem bitLen_one : Lib.bitLen 1 = 1 := by decide +kernel
theorem bitLen_of (x j : Nat) (h4 : 4 ≤ j) (hj : j ≤ 21) (h1 : pw (j - 1) ≤ x) (h2 : x < pw j) : Lib.bitLen x = j := by
  have hp := pw_pred j h4
  have hle := pw_le j hj
  have e := Lib.bitLen_shift (j - 1) x h1 (by show x < 18446744073709551616; omega)
  have d : x / 2 ^ (j - 1) = 1 := by
    refine Nat.div_eq_of_lt_le ?_ ?_
    · show 1 * pw (j - 1) ≤ x; omega
    · show x < (1 + 1) * pw (j - 1); omega
  rw [d, bitLen_one] at e
  omega
/-- The exponent of newNameIndex's size. -/
theorem exp_of (n : Int) (_h0 : -1048576 ≤ n) (h1 : n ≤ 1048576) : ∃ k : Nat, 4 ≤ k ∧ k ≤ 21 ∧ (pw (k - 1) : Int) ≤ max (2 * n) 16 - 1 ∧ max (2 * n) 16 - 1 < (pw k : Int) := by
  obtain ⟨x, hx⟩ : ∃ x : Nat, max (2 * n) 16 - 1 = (x : Int) := ⟨(max (2 * n) 16 - 1).toNat, by omega⟩
  rw [hx]
  have hlo : 15 ≤ x := by omega
  have hhi : x < 2097152 := by omega
  have a := Nat.log2_self_le (n := x) (by omega)
  have b := Nat.lt_log2_self (n := x)
  have c : 3 ≤ x.log2 := (Nat.le_log2 (by omega)).2 (by omega)
  have d : x.log2 < 21 := (Nat.log2_lt (by omega)).2 (by omega)
  refine ⟨x.log2 + 1, by omega, by omega, ?_, ?_⟩
  · show ((2 ^ (x.log2 + 1 - 1) : Nat) : Int) ≤ (x : Int)
    rw [Nat.add_sub_cancel]; omega
  · show (x : Int) < ((2 ^ (x.log2 + 1) : Nat) : Int)
    omega
/-- What the law's own loop has found is that exponent. -/
theorem exp_found (n : Int) (k : Nat) (h4 : 4 ≤ k) (h : k = 4 ∨ (pw (k - 1) : Int) < 2 * n) (he : 2 * n ≤ (pw k : Int)) : (pw (k - 1) : Int) ≤ max (2 * n) 16 - 1 ∧ max (2 * n) 16 - 1 < (pw k : Int) := by
  have hp := pw_pred k h4
  have hl := pw_lo k h4
  rcases h with rfl | h
  · have e3 : pw (4 - 1) = 8 := rfl
    have e4 : pw 4 = 16 := rfl
    omega
  · omega
/-- What LawS0325BRoom asks of the size. -/
theorem room_of (n : Int) (k : Nat) (h4 : 4 ≤ k) (h1 : (pw (k - 1) : Int) ≤ max (2 * n) 16 - 1) (h2 : max (2 * n) 16 - 1 < (pw k : Int)) : 2 * n ≤ (pw k : Int) ∧ (8 < n → (pw k : Int) < 4 * n) ∧ (16 : Int) ≤ (pw k : Int) := by
  have hp := pw_pred k h4
  have hl := pw_lo k h4
  refine ⟨by omega, fun h => by omega, by omega⟩
end Go.Proofs.YbulkfsaDoor
