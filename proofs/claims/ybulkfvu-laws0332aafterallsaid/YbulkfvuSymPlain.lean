/-
  THE PLAIN LAW OF THE SYMMETRIC MERGE (slices.symMergeCmpFunc): no Go in sight.
-/
import Derived.Test.YbulkfvuPlain
namespace Go.Proofs.Ybulkfvu.Pl

theorem Srt.le {d : Nat → M} {a b i j : Nat} (h : Srt d a b) (h1 : a ≤ i) (h2 : i ≤ j) (h3 : j < b) : (d i).1 ≤ (d j).1 := by
  rcases Nat.lt_or_ge i j with h' | h'
  · exact h i j h1 h' h3
  · obtain rfl : i = j := by omega
    exact Int.le_refl _

/-! ### one element against a sorted row -/
/-- d a has been carried up to k. -/
def shl (d : Nat → M) (a k : Nat) : Nat → M := fun x => if a ≤ x ∧ x < k then d (x + 1) else if x = k then d a else d x
theorem shl_start (d : Nat → M) (a : Nat) : shl d a a = d := by
  funext x; simp only [shl]
  rw [if_neg (by omega)]
  by_cases h : x = a
  · rw [if_pos h, h]
  · rw [if_neg h]
theorem shl_step (d : Nat → M) (a k : Nat) (h : a ≤ k) : sw (shl d a k) k (k + 1) = shl d a (k + 1) := by
  funext x; simp only [shl, sw]
  by_cases c1 : x = k
  · subst c1
    rw [if_pos rfl, if_neg (by omega), if_neg (by omega), if_pos (by omega)]
  · by_cases c2 : x = k + 1
    · subst c2
      simp
    · rw [if_neg c1, if_neg c2]
      by_cases c3 : a ≤ x ∧ x < k
      · rw [if_pos c3, if_pos (by omega)]
      · rw [if_neg c3, if_neg (by omega), if_neg (by omega), if_neg c2]
theorem shl_sub (d : Nat → M) (a k b : Nat) (h : a ≤ k) (hk : k < b) : Sub a b d (shl d a k) :=
  ⟨fun x hx => by simp only [shl]; rw [if_neg (by omega), if_neg (by omega)], fun x x1 x2 => by
    simp only [shl]
    by_cases c1 : a ≤ x ∧ x < k
    · exact ⟨x + 1, by omega, by omega, by rw [if_pos c1]⟩
    · by_cases c2 : x = k
      · exact ⟨a, by omega, by omega, by rw [if_neg c1, if_pos c2]⟩
      · exact ⟨x, x1, x2, by rw [if_neg c1, if_neg c2]⟩⟩
theorem shl_srt {d : Nat → M} {a i b : Nat} (hs : Srt d (a + 1) b) (hi : a + 1 ≤ i) (hib : i ≤ b) (hlo : ∀ h, a + 1 ≤ h → h < i → (d h).1 < (d a).1) (hhi : ∀ h, i ≤ h → h < b → (d a).1 ≤ (d h).1) : Srt (shl d a (i - 1)) a b := by
  intro p q p1 p2 p3
  simp only [shl]
  by_cases c1 : q < i - 1
  · rw [if_pos (by omega), if_pos (by omega)]; exact hs _ _ (by omega) (by omega) (by omega)
  · by_cases c2 : q = i - 1
    · rw [if_pos (by omega), if_neg (by omega), if_pos c2]; exact Int.le_of_lt (hlo _ (by omega) (by omega))
    · rw [if_neg (c := a ≤ q ∧ q < i - 1) (by omega), if_neg c2]
      by_cases c3 : p < i - 1
      · rw [if_pos (by omega)]; exact hs.le (by omega) (by omega) p3
      · by_cases c4 : p = i - 1
        · rw [if_neg (by omega), if_pos c4]; exact hhi q (by omega) p3
        · rw [if_neg (by omega), if_neg c4]; exact hs _ _ (by omega) p2 p3

/-- d m has been carried down to k. -/
def shr (d : Nat → M) (k m : Nat) : Nat → M := fun x => if x = k then d m else if k < x ∧ x ≤ m then d (x - 1) else d x
theorem shr_start (d : Nat → M) (m : Nat) : shr d m m = d := by
  funext x; simp only [shr]
  by_cases h : x = m
  · rw [if_pos h, h]
  · rw [if_neg h, if_neg (by omega)]
theorem shr_step (d : Nat → M) (k m : Nat) (h0 : 0 < k) (h : k ≤ m) : sw (shr d k m) k (k - 1) = shr d (k - 1) m := by
  funext x; simp only [shr, sw]
  by_cases c1 : x = k
  · subst c1
    rw [if_pos rfl, if_neg (by omega), if_neg (by omega), if_neg (by omega), if_pos (by omega)]
  · by_cases c2 : x = k - 1
    · subst c2
      rw [if_neg c1]; simp
    · rw [if_neg c1, if_neg c2, if_neg c2]
      rw [if_neg c1]
      by_cases c3 : k < x ∧ x ≤ m
      · rw [if_pos c3, if_pos (by omega)]
      · rw [if_neg c3, if_neg (by omega)]
theorem shr_sub (d : Nat → M) (a k m : Nat) (h : a ≤ k) (hk : k ≤ m) : Sub a (m + 1) d (shr d k m) :=
  ⟨fun x hx => by simp only [shr]; rw [if_neg (by omega), if_neg (by omega)], fun x x1 x2 => by
    simp only [shr]
    by_cases c1 : x = k
    · exact ⟨m, by omega, by omega, by rw [if_pos c1]⟩
    · by_cases c2 : k < x ∧ x ≤ m
      · exact ⟨x - 1, by omega, by omega, by rw [if_neg c1, if_pos c2]⟩
      · exact ⟨x, x1, x2, by rw [if_neg c1, if_neg c2]⟩⟩
theorem shr_srt {d : Nat → M} {a i m : Nat} (hs : Srt d a m) (hi : a ≤ i) (him : i ≤ m) (hlo : ∀ h, a ≤ h → h < i → (d h).1 ≤ (d m).1) (hhi : ∀ h, i ≤ h → h < m → (d m).1 < (d h).1) : Srt (shr d i m) a (m + 1) := by
  intro p q p1 p2 p3
  simp only [shr]
  by_cases c1 : q < i
  · rw [if_neg (by omega), if_neg (by omega), if_neg (by omega), if_neg (by omega)]; exact hs _ _ p1 p2 (by omega)
  · by_cases c2 : q = i
    · rw [if_neg (by omega), if_neg (by omega), if_pos c2]; exact hlo p p1 (by omega)
    · rw [if_neg c2, if_pos (c := i < q ∧ q ≤ m) (by omega)]
      by_cases c3 : p < i
      · rw [if_neg (by omega), if_neg (by omega)]; exact hs.le p1 (by omega) (by omega)
      · by_cases c4 : p = i
        · rw [if_pos c4]; exact Int.le_of_lt (hhi _ (by omega) (by omega))
        · rw [if_neg c4, if_pos (by omega)]; exact hs _ _ (by omega) (by omega) (by omega)

/-! ### the symmetric split -/
theorem rot_none (d : Nat → M) (lo m hi : Nat) (h1 : lo ≤ m) (h2 : m ≤ hi) (h : lo = m ∨ m = hi) : rot d lo m hi = d := by
  funext k; simp only [rot]
  by_cases c1 : lo ≤ k ∧ k < lo + (hi - m)
  · rw [if_pos c1]; congr 1; omega
  · rw [if_neg c1]
    by_cases c2 : lo + (hi - m) ≤ k ∧ k < hi
    · rw [if_pos c2]; congr 1; omega
    · rw [if_neg c2]
/-- Where the split's search has ended. -/
structure Split (d : Nat → M) (a m b mid s0 r0 start : Nat) : Prop where
  am : a < m
  mb : m < b
  mid_eq : mid = (a + b) / 2
  from_ : (mid < m ∧ s0 = mid + m - b ∧ r0 = mid) ∨ (m ≤ mid ∧ s0 = a ∧ r0 = m)
  lo : s0 ≤ start
  hi : start ≤ r0
  low : ∀ c, s0 ≤ c → c < start → (d c).1 ≤ (d (mid + m - 1 - c)).1
  high : ∀ c, start ≤ c → c < r0 → (d (mid + m - 1 - c)).1 < (d c).1

section
variable {d : Nat → M} {a m b mid s0 r0 start : Nat}
theorem Split.bounds (S : Split d a m b mid s0 r0 start) : a ≤ start ∧ start ≤ m ∧ start ≤ mid ∧ m ≤ mid + m - start ∧ mid + m - start ≤ b ∧ a < mid ∧ mid < b ∧ start + (mid + m - start - m) = mid := by
  have := S.am; have := S.mb; have := S.mid_eq; have := S.from_; have := S.lo; have := S.hi
  refine ⟨?_, ?_, ?_, ?_, ?_, ?_, ?_, ?_⟩ <;> omega
theorem Split.parts (S : Split d a m b mid s0 r0 start) (h1 : Srt d a m) (h2 : Srt d m b) :
    let e := rot d start m (mid + m - start)
    Srt e a start ∧ Srt e start mid ∧ Srt e mid (mid + m - start) ∧ Srt e (mid + m - start) b ∧ (∀ p q, a ≤ p → p < mid → mid ≤ q → q < b → (e p).1 ≤ (e q).1) := by
  obtain ⟨b1, b2, b3, b4, b5, b6, b7, b8⟩ := S.bounds
  have hf := S.from_; have hlo := S.lo; have hhi := S.hi
  have low := S.low; have high := S.high
  generalize hE : mid + m - start = E at b4 b5 b8
  have eL : ∀ k, k < start → rot d start m E k = d k := fun k hk => by simp only [rot]; rw [if_neg (by omega), if_neg (by omega)]
  have eR : ∀ k, E ≤ k → rot d start m E k = d k := fun k hk => by simp only [rot]; rw [if_neg (by omega), if_neg (by omega)]
  have e1 : ∀ k, start ≤ k → k < mid → rot d start m E k = d (k + (m - start)) := fun k k1 k2 => by simp only [rot]; rw [if_pos (by omega)]
  have e2 : ∀ k, mid ≤ k → k < E → rot d start m E k = d (k - (E - m)) := fun k k1 k2 => by simp only [rot]; rw [if_neg (by omega), if_pos (by omega)]
  refine ⟨?_, ?_, ?_, ?_, ?_⟩
  · intro i j i1 i2 i3; rw [eL i (by omega), eL j (by omega)]; exact h1 i j i1 i2 (by omega)
  · intro i j i1 i2 i3; rw [e1 i i1 (by omega), e1 j (by omega) i3]; exact h2 _ _ (by omega) (by omega) (by omega)
  · intro i j i1 i2 i3; rw [e2 i i1 (by omega), e2 j (by omega) i3]; exact h1 _ _ (by omega) (by omega) (by omega)
  · intro i j i1 i2 i3; rw [eR i i1, eR j (by omega)]; exact h2 i j (by omega) i2 i3
  · intro p q p1 p2 q1 q2
    by_cases cp : p < start
    · rw [eL p cp]
      by_cases cq : q < E
      · rw [e2 q q1 cq]; exact h1.le p1 (by omega) (by omega)
      · rw [eR q (by omega)]
        have hl := low (start - 1) (by omega) (by omega)
        rw [show mid + m - 1 - (start - 1) = E from by omega] at hl
        exact Int.le_trans (h1.le p1 (by omega) (by omega)) (Int.le_trans hl (h2.le (by omega) (by omega) q2))
    · rw [e1 p (by omega) p2]
      by_cases cq : q < E
      · rw [e2 q q1 cq]
        have hh := high start (by omega) (by omega)
        rw [show mid + m - 1 - start = E - 1 from by omega] at hh
        exact Int.le_trans (h2.le (by omega) (by omega) (by omega)) (Int.le_trans (Int.le_of_lt hh) (h1.le (by omega) (by omega) (by omega)))
      · rw [eR q (by omega)]; exact h2.le (by omega) (by omega) q2
end

/-- Both halves sorted, nothing carried across: the whole is sorted. -/
theorem join_halves {e e1 e2 : Nat → M} {a mid b : Nat} (_ham : a ≤ mid) (_hmb : mid ≤ b) (hc : ∀ p q, a ≤ p → p < mid → mid ≤ q → q < b → (e p).1 ≤ (e q).1)
    (s1 : Sub a mid e e1) (o1 : Srt e1 a mid) (s2 : Sub mid b e1 e2) (o2 : Srt e2 mid b) : Srt e2 a b := by
  refine Srt.join (m := mid) (o1.keep s2 (Or.inl (Nat.le_refl _))) o2 fun p q p1 p2 q1 q2 => ?_
  rw [s2.1 p (Or.inl p2)]
  obtain ⟨p', p1', p2', ep⟩ := s1.2 p p1 p2
  obtain ⟨q', q1', q2', eq⟩ := s2.2 q q1 q2
  rw [ep, eq, s1.1 q' (Or.inr q1')]
  exact hc p' q' p1' p2' q1' q2'
end Go.Proofs.Ybulkfvu.Pl
