/-
  THE PLAIN LAWS OF THE STABLE SORT's BLOCKS: no Go in sight.
-/
import Derived.Test.YbulkfvuSymPlain
namespace Go.Proofs.Ybulkfvu.Pl

/-- Sorted within each block of bs, up to n. -/
def Blk (d : Nat → M) (bs n : Nat) : Prop := ∀ i j, i < j → j < n → i / bs = j / bs → (d i).1 ≤ (d j).1
theorem quo {c q j : Nat} (h1 : c * q ≤ j) (h2 : j < c * q + c) : j / c = q :=
  Nat.div_eq_of_lt_le (by rw [Nat.mul_comm]; exact h1) (by rw [Nat.add_mul, Nat.one_mul, Nat.mul_comm]; exact h2)
theorem quo_le {c q i : Nat} (h : i / c = q) : c * q ≤ i := by subst h; exact Nat.mul_div_le i c

/-- A block more. -/
theorem blk_more {d e : Nat → M} {c q : Nat} (hd : Blk d c (c * q)) (hs : Sub (c * q) (c * q + c) d e) (ho : Srt e (c * q) (c * q + c)) : Blk e c (c * q + c) := by
  intro i j h1 h2 h3
  by_cases hj : j < c * q
  · rw [hs.1 i (Or.inl (by omega)), hs.1 j (Or.inl hj)]; exact hd i j h1 hj h3
  · rw [quo (by omega) h2] at h3
    exact ho i j (quo_le h3) h1 h2
/-- The last block, maybe short. -/
theorem blk_last {d e : Nat → M} {c q n : Nat} (hn : n ≤ c * q + c) (hd : Blk d c (c * q)) (hs : Sub (c * q) n d e) (ho : Srt e (c * q) n) : Blk e c n := by
  intro i j h1 h2 h3
  by_cases hj : j < c * q
  · rw [hs.1 i (Or.inl (by omega)), hs.1 j (Or.inl hj)]; exact hd i j h1 hj h3
  · rw [quo (c := c) (q := q) (j := j) (by omega) (by omega)] at h3
    exact ho i j (quo_le h3) h1 h2
theorem blk_whole {d : Nat → M} {c n : Nat} (h : Blk d c n) (hn : n ≤ c) : Srt d 0 n := fun i j _ h2 h3 => h i j h2 h3 (by
  rw [Nat.div_eq_of_lt (by omega), Nat.div_eq_of_lt (by omega)])
theorem blk_zero (d : Nat → M) (c : Nat) : Blk d c (c * 0) := fun i j _ h => by omega

/-- What is left to merge from A on: sorted within the small blocks. -/
def Rest (d : Nat → M) (A bs n : Nat) : Prop := ∀ i j, A ≤ i → i < j → j < n → i / bs = j / bs → (d i).1 ≤ (d j).1
theorem rest_start {d : Nat → M} {bs n : Nat} (h : Blk d bs n) (A : Nat) : Rest d A bs n := fun i j _ h2 h3 h4 => h i j h2 h3 h4
theorem rest_piece {d : Nat → M} {A bs n k x y : Nat} (h : Rest d A bs n) (hx : x = bs * k) (hA : A ≤ x) (hy : y ≤ n) (hxy : y ≤ x + bs) : Srt d x y := fun i j h1 h2 h3 => by
  subst hx
  exact h i j (by omega) h2 (by omega) (by rw [quo (c := bs) (q := k) (by omega) (by omega), quo (c := bs) (q := k) (by omega) (by omega)])
theorem rest_more {d e : Nat → M} {A A' bs n : Nat} (h : Rest d A bs n) (hs : Sub A A' d e) (hA : A ≤ A') : Rest e A' bs n := fun i j h1 h2 h3 h4 => by
  rw [hs.1 i (Or.inr h1), hs.1 j (Or.inr (by omega))]; exact h i j (by omega) h2 h3 h4
end Go.Proofs.Ybulkfvu.Pl
