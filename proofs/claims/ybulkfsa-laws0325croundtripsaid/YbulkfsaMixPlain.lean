/-
  THE PLAIN LAW OF THE SplitMix64 OUTPUT MIX over natural numbers: no Go in sight.
-/
namespace Go.Proofs.Ybulkfsa.Mix

/-- 'z ^ z>>s'. -/
def xs (s z : Nat) : Nat := z ^^^ z / 2 ^ s
/-- 'a * c' on 64 bits. -/
def mul (a c : Nat) : Nat := a * c % 18446744073709551616
/-- splitMixOutput. -/
def mixN (z : Nat) : Nat := xs 31 (mul (xs 27 (mul (xs 30 z) 13787848793156543929)) 10723151780598845931)
/-- k passes of zzs0325cunshift. -/
def un (y s : Nat) : Nat → Nat
  | 0 => y
  | k + 1 => y ^^^ un y s k / 2 ^ s
/-- k rounds of zzs0325cinv. -/
def inv (c : Nat) : Nat → Nat
  | 0 => c
  | k + 1 => inv c k * ((18446744073709551616 + 2 - c * inv c k % 18446744073709551616) % 18446744073709551616) % 18446744073709551616
/-- zzs0325cundo. -/
def undoN (y : Nat) : Nat :=
  un (mul (un (mul (un y 31 64) (inv 10723151780598845931 6)) 27 64) (inv 13787848793156543929 6)) 30 64

theorem xs_lt (s z : Nat) (h : z < 18446744073709551616) : xs s z < 18446744073709551616 := by
  have h1 : z / 2 ^ s < 2 ^ 64 := Nat.lt_of_le_of_lt (Nat.div_le_self _ _) (by simpa using h)
  have h2 : z ^^^ z / 2 ^ s < 2 ^ 64 := Nat.xor_lt_two_pow (by simpa using h) h1
  simpa [xs] using h2
theorem mul_lt (a c : Nat) : mul a c < 18446744073709551616 := Nat.mod_lt _ (by decide)
theorem un_lt (y s : Nat) (h : y < 18446744073709551616) (k : Nat) : un y s k < 18446744073709551616 := by
  induction k with
  | zero => exact h
  | succ k ih =>
    have h1 : un y s k / 2 ^ s < 2 ^ 64 := Nat.lt_of_le_of_lt (Nat.div_le_self _ _) (by simpa using ih)
    have h2 : y ^^^ un y s k / 2 ^ s < 2 ^ 64 := Nat.xor_lt_two_pow (by simpa using h) h1
    simpa [un] using h2
theorem inv_lt (c : Nat) (h : c < 18446744073709551616) (k : Nat) : inv c k < 18446744073709551616 := by
  cases k with
  | zero => exact h
  | succ k => exact Nat.mod_lt _ (by decide)
theorem mixN_lt (z : Nat) : mixN z < 18446744073709551616 := xs_lt _ _ (mul_lt _ _)

theorem xor4 (z a u : Nat) : ((z ^^^ a) ^^^ u) ^^^ z = u ^^^ a := by
  refine Nat.eq_of_testBit_eq fun i => ?_
  simp only [Nat.testBit_xor]
  cases z.testBit i <;> cases a.testBit i <;> cases u.testBit i <;> rfl

/-- After k passes what is still wrong is z shifted down by (k+1)·s. -/
theorem un_xor (z s k : Nat) : un (xs s z) s k ^^^ z = z >>> (s * (k + 1)) := by
  induction k with
  | zero =>
    simp only [un, xs, Nat.zero_add, Nat.mul_one, ← Nat.shiftRight_eq_div_pow]
    rw [Nat.xor_comm z, Nat.xor_assoc, Nat.xor_self, Nat.xor_zero]
  | succ k ih =>
    simp only [un, ← Nat.shiftRight_eq_div_pow]
    have e : s * (k + 1 + 1) = s * (k + 1) + s := by rw [Nat.mul_succ s (k + 1)]
    rw [e, Nat.shiftRight_add, ← ih, Nat.shiftRight_xor_distrib]
    generalize un (xs s z) s k >>> s = u
    simp only [xs, ← Nat.shiftRight_eq_div_pow]
    exact xor4 z (z >>> s) u

theorem un_back (z s : Nat) (hs : 0 < s) (h : z < 18446744073709551616) : un (xs s z) s 64 = z := by
  have e := un_xor z s 64
  have h0 : z >>> (s * (64 + 1)) = 0 := by
    rw [Nat.shiftRight_eq_div_pow]
    refine Nat.div_eq_of_lt (Nat.lt_of_lt_of_le (m := 2 ^ 64) (by simpa using h) (Nat.pow_le_pow_right (by decide) ?_))
    have := Nat.mul_le_mul_right (64 + 1) hs
    omega
  rw [h0] at e
  have e2 : (un (xs s z) s 64 ^^^ z) ^^^ z = 0 ^^^ z := by rw [e]
  rw [Nat.xor_assoc, Nat.xor_self, Nat.xor_zero, Nat.zero_xor] at e2
  exact e2

theorem mul_back (a c d : Nat) (ha : a < 18446744073709551616) (h : c * d % 18446744073709551616 = 1) : mul (mul a c) d = a := by
  unfold mul
  rw [Nat.mod_mul_mod, Nat.mul_assoc, Nat.mul_mod, h, Nat.mul_one, Nat.mod_mod, Nat.mod_eq_of_lt ha]

theorem inv1 : 10723151780598845931 * inv 10723151780598845931 6 % 18446744073709551616 = 1 := by decide +kernel
theorem inv2 : 13787848793156543929 * inv 13787848793156543929 6 % 18446744073709551616 = 1 := by decide +kernel

theorem undo_mix (z : Nat) (h : z < 18446744073709551616) : undoN (mixN z) = z := by
  unfold undoN mixN
  rw [un_back _ 31 (by decide) (mul_lt _ _), mul_back _ _ _ (xs_lt _ _ (mul_lt _ _)) inv1, un_back _ 27 (by decide) (mul_lt _ _),
    mul_back _ _ _ (xs_lt _ _ h) inv2, un_back _ 30 (by decide) h]

theorem mix_inj (a b : Nat) (ha : a < 18446744073709551616) (hb : b < 18446744073709551616) (h : mixN a = mixN b) : a = b := by
  rw [← undo_mix a ha, ← undo_mix b hb, h]

theorem vec0 : mixN 0x9E3779B97F4A7C15 = 0xE220A8397B1DCDAF := by decide +kernel
theorem vec1 : mixN 0x3C6EF372FE94F82A = 0x6E789E6AA1B965F4 := by decide +kernel
theorem vec2 : mixN 0 = 0 := by decide +kernel
end Go.Proofs.Ybulkfsa.Mix
