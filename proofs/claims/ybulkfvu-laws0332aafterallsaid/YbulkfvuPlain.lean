/-
  THE PLAIN LAWS of seat b0332a: a row of moments as a function of its index; sortedness by the point; block exchange, rotation, the insertion step, the symmetric merge. No Go in sight.
-/
namespace Go.Proofs.Ybulkfvu.Pl

/-- A moment: its point, and its value (a number, whether it is there). -/
abbrev M := Int × Int × Bool
/-- Sorted by the point on [a, b). -/
def Srt (d : Nat → M) (a b : Nat) : Prop := ∀ i j, a ≤ i → i < j → j < b → (d i).1 ≤ (d j).1
/-- d' is d but for [a, b), and there it holds elements of d's [a, b). -/
def Sub (a b : Nat) (d d' : Nat → M) : Prop := (∀ i, i < a ∨ b ≤ i → d' i = d i) ∧ (∀ i, a ≤ i → i < b → ∃ j, a ≤ j ∧ j < b ∧ d' i = d j)

theorem Sub.refl (a b : Nat) (d : Nat → M) : Sub a b d d := ⟨fun _ _ => rfl, fun i h1 h2 => ⟨i, h1, h2, rfl⟩⟩
theorem Sub.trans {a b : Nat} {d e f : Nat → M} (h : Sub a b d e) (g : Sub a b e f) : Sub a b d f :=
  ⟨fun i hi => (g.1 i hi).trans (h.1 i hi), fun i h1 h2 => by
    obtain ⟨j, j1, j2, e1⟩ := g.2 i h1 h2
    obtain ⟨k, k1, k2, e2⟩ := h.2 j j1 j2
    exact ⟨k, k1, k2, e1.trans e2⟩⟩
theorem Sub.wider {a b x y : Nat} {d e : Nat → M} (h : Sub x y d e) (h1 : a ≤ x) (h2 : y ≤ b) : Sub a b d e :=
  ⟨fun i hi => h.1 i (by omega), fun i i1 i2 => by
    by_cases hc : x ≤ i ∧ i < y
    · obtain ⟨j, j1, j2, e1⟩ := h.2 i hc.1 hc.2
      exact ⟨j, by omega, by omega, e1⟩
    · exact ⟨i, i1, i2, h.1 i (by omega)⟩⟩

theorem Srt.sub {d : Nat → M} {a b x y : Nat} (h : Srt d a b) (h1 : a ≤ x) (h2 : y ≤ b) : Srt d x y := fun i j i1 i2 i3 => h i j (by omega) i2 (by omega)
theorem Srt.of_eq {d e : Nat → M} {a b : Nat} (h : Srt d a b) (he : ∀ i, a ≤ i → i < b → e i = d i) : Srt e a b := fun i j i1 i2 i3 => by
  rw [he i i1 (by omega), he j (by omega) i3]; exact h i j i1 i2 i3
/-- Sorted outside of what was touched stays sorted. -/
theorem Srt.keep {d e : Nat → M} {a b x y : Nat} (h : Srt d x y) (hs : Sub a b d e) (hd : y ≤ a ∨ b ≤ x) : Srt e x y :=
  h.of_eq fun i i1 i2 => hs.1 i (by omega)
theorem Srt.short {d : Nat → M} {a b : Nat} (h : b ≤ a + 1) : Srt d a b := fun i j _ _ _ => by omega
/-- Two sorted pieces, the one below the other. -/
theorem Srt.join {d : Nat → M} {a m b : Nat} (h1 : Srt d a m) (h2 : Srt d m b) (hle : ∀ i j, a ≤ i → i < m → m ≤ j → j < b → (d i).1 ≤ (d j).1) : Srt d a b := fun i j i1 i2 i3 => by
  by_cases hi : i < m
  · by_cases hj : j < m
    · exact h1 i j i1 i2 hj
    · exact hle i j i1 hi (by omega) i3
  · exact h2 i j (by omega) i2 i3

/-! ### one exchange -/
def sw (d : Nat → M) (i j : Nat) : Nat → M := fun k => if k = i then d j else if k = j then d i else d k
theorem sw_sub (d : Nat → M) (a b i j : Nat) (h1 : a ≤ i) (h2 : i < b) (h3 : a ≤ j) (h4 : j < b) : Sub a b d (sw d i j) :=
  ⟨fun k hk => by simp only [sw]; rw [if_neg (by omega), if_neg (by omega)], fun k k1 k2 => by
    simp only [sw]
    by_cases e1 : k = i
    · exact ⟨j, h3, h4, by rw [if_pos e1]⟩
    · by_cases e2 : k = j
      · exact ⟨i, h1, h2, by rw [if_neg e1, if_pos e2]⟩
      · exact ⟨k, k1, k2, by rw [if_neg e1, if_neg e2]⟩⟩

/-! ### the insertion step -/
/-- On [a, i] all is in order but for the element at j against those before it. -/
def Ins (d : Nat → M) (a i j : Nat) : Prop := ∀ p q, a ≤ p → p < q → q ≤ i → q ≠ j → (d p).1 ≤ (d q).1
theorem ins_start {d : Nat → M} {a i : Nat} (h : Srt d a i) : Ins d a i i := fun p q p1 p2 p3 p4 => h p q p1 p2 (by omega)
theorem ins_step {d : Nat → M} {a i j : Nat} (h : Ins d a i j) (ha : a < j) (hj : j ≤ i) (hlt : (d j).1 < (d (j - 1)).1) : Ins (sw d j (j - 1)) a i (j - 1) := by
  intro p q p1 p2 p3 p4
  simp only [sw]
  by_cases q1 : q = j
  · subst q1
    rw [if_pos rfl, if_neg (by omega)]
    by_cases p5 : p = q - 1
    · rw [if_pos p5]; omega
    · rw [if_neg p5]; exact h p (q - 1) p1 (by omega) (by omega) (by omega)
  · rw [if_neg q1, if_neg p4]
    by_cases p5 : p = j
    · rw [if_pos p5]; exact h (j - 1) q (by omega) (by omega) p3 q1
    · by_cases p6 : p = j - 1
      · rw [if_neg p5, if_pos p6]; exact h j q (by omega) (by omega) p3 q1
      · rw [if_neg p5, if_neg p6]; exact h p q p1 p2 p3 q1
theorem ins_done {d : Nat → M} {a i j : Nat} (h : Ins d a i j) (hj : j ≤ i) (hd : j ≤ a ∨ (d (j - 1)).1 ≤ (d j).1) : Srt d a (i + 1) := by
  intro p q p1 p2 p3
  by_cases q1 : q = j
  · subst q1
    rcases hd with hd | hd
    · omega
    · by_cases p5 : p = q - 1
      · rw [p5]; exact hd
      · exact Int.le_trans (h p (q - 1) p1 (by omega) (by omega) (by omega)) hd
  · exact h p q p1 p2 (by omega) q1

/-! ### block exchange and rotation -/
def swp (d : Nat → M) (x y n : Nat) : Nat → M := fun k => if x ≤ k ∧ k < x + n then d (k - x + y) else if y ≤ k ∧ k < y + n then d (k - y + x) else d k
theorem swp_zero (d : Nat → M) (x y : Nat) : swp d x y 0 = d := by
  funext k; simp only [swp]; rw [if_neg (by omega), if_neg (by omega)]
theorem swp_succ (d : Nat → M) (x y n : Nat) (h : x + n + 1 ≤ y) : sw (swp d x y n) (x + n) (y + n) = swp d x y (n + 1) := by
  funext k
  simp only [sw, swp]
  by_cases c1 : k = x + n
  · subst c1
    rw [if_pos rfl, if_neg (by omega), if_neg (by omega), if_pos (by omega)]
    congr 1; omega
  · by_cases c2 : k = y + n
    · subst c2
      rw [if_neg c1, if_pos rfl, if_neg (by omega), if_neg (by omega), if_neg (by omega), if_pos (by omega)]
      congr 1; omega
    · rw [if_neg c1, if_neg c2]
      by_cases c3 : x ≤ k ∧ k < x + n
      · rw [if_pos c3, if_pos (by omega)]
      · by_cases c4 : y ≤ k ∧ k < y + n
        · rw [if_neg c3, if_pos c4, if_neg (by omega), if_pos (by omega)]
        · rw [if_neg c3, if_neg c4, if_neg (by omega), if_neg (by omega)]

/-- [lo, m) and [m, hi) change places. -/
def rot (d : Nat → M) (lo m hi : Nat) : Nat → M := fun k => if lo ≤ k ∧ k < lo + (hi - m) then d (k + (m - lo)) else if lo + (hi - m) ≤ k ∧ k < hi then d (k - (hi - m)) else d k
theorem rot_gt (d : Nat → M) (m i j : Nat) (h : j < i) (hm : i ≤ m) : rot (swp d (m - i) m j) (m - (i - j)) m (m + j) = rot d (m - i) m (m + j) := by
  funext k
  simp only [rot, swp]
  by_cases c0 : m - i ≤ k ∧ k < m + j
  · by_cases c1 : k < m - i + j
    · rw [if_neg (by omega), if_neg (by omega), if_pos (by omega), if_pos (by omega)]
      congr 1; omega
    · by_cases c2 : k < m - (i - j) + j
      · rw [if_pos (by omega), if_neg (by omega), if_pos (by omega), if_neg (by omega), if_pos (by omega)]
        congr 1; omega
      · rw [if_neg (by omega), if_pos (by omega), if_neg (by omega), if_neg (by omega), if_neg (by omega), if_pos (by omega)]
  · rw [if_neg (by omega), if_neg (by omega), if_neg (by omega), if_neg (by omega), if_neg (by omega), if_neg (by omega)]
theorem rot_lt (d : Nat → M) (m i j : Nat) (h : i < j) (hm : i ≤ m) : rot (swp d (m - i) (m + j - i) i) (m - i) m (m + (j - i)) = rot d (m - i) m (m + j) := by
  funext k
  simp only [rot, swp]
  by_cases c0 : m - i ≤ k ∧ k < m + j
  · by_cases c1 : k < m + (j - i)
    · by_cases c2 : k < m - i + (j - i)
      · rw [if_pos (by omega), if_neg (by omega), if_neg (by omega), if_pos (by omega)]
      · rw [if_neg (by omega), if_pos (by omega), if_pos (by omega)]
        by_cases c3 : k < m - i + j
        · rw [if_pos (by omega)]; congr 1; omega
        · omega
    · rw [if_neg (by omega), if_neg (by omega), if_neg (by omega), if_pos (by omega), if_neg (by omega), if_pos (by omega)]
      congr 1; omega
  · rw [if_neg (by omega), if_neg (by omega), if_neg (by omega), if_neg (by omega), if_neg (by omega), if_neg (by omega)]
theorem rot_eq (d : Nat → M) (m i : Nat) (hm : i ≤ m) : swp d (m - i) m i = rot d (m - i) m (m + i) := by
  funext k
  simp only [rot, swp]
  by_cases c0 : m - i ≤ k ∧ k < m + i
  · by_cases c1 : k < m
    · rw [if_pos (by omega), if_pos (by omega)]; congr 1; omega
    · rw [if_neg (by omega), if_pos (by omega), if_neg (by omega), if_pos (by omega)]; congr 1; omega
  · rw [if_neg (by omega), if_neg (by omega), if_neg (by omega), if_neg (by omega)]
theorem rot_sub (d : Nat → M) (lo m hi : Nat) (h1 : lo ≤ m) (h2 : m ≤ hi) : Sub lo hi d (rot d lo m hi) :=
  ⟨fun k hk => by simp only [rot]; rw [if_neg (by omega), if_neg (by omega)], fun k k1 k2 => by
    simp only [rot]
    by_cases c1 : lo ≤ k ∧ k < lo + (hi - m)
    · exact ⟨k + (m - lo), by omega, by omega, by rw [if_pos c1]⟩
    · exact ⟨k - (hi - m), by omega, by omega, by rw [if_neg c1, if_pos (by omega)]⟩⟩
end Go.Proofs.Ybulkfvu.Pl
