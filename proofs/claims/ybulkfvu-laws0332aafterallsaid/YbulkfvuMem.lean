/-
  THE ROW OF MOMENTS IN MEMORY: block B holds, from its start, N structs of three cells; all that lay in the world w0 is untouched.
-/
import Derived.Test.YbulkfvuRows
import Derived.Test.YbulkfvuSymPlain
import Derived.WalkKit
import Derived.WalkSpells
import Derived.WalkLawsBesides
import Derived.RegionTactic
import Derived.Laws.Pointers
import Derived.RowKit3
namespace Go.Proofs.Ybulkfvu
open Go.RowKit
open Pl (M sw)

structure St (w0 : World) (B N : Nat) (d : Nat → M) (W : World) : Prop where
  grown : Grown w0 W
  base : w0.heap.size ≤ B
  lt : B < W.heap.size
  c0 : ∀ i, i < N → W.cell? ⟨B, i * 3, none⟩ = some (.int .i64 (d i).1)
  c1 : ∀ i, i < N → W.cell? ⟨B, i * 3 + 1, none⟩ = some (.int .i64 (d i).2.1)
  c2 : ∀ i, i < N → W.cell? ⟨B, i * 3 + 2, none⟩ = some (.bool (d i).2.2)

section
variable {w0 : World} {B N : Nat} {d : Nat → M} {W : World}

theorem St.fr (h : St w0 B N d W) (k : Nat) : W.frozen? ⟨B, k, none⟩ = false := by
  rw [h.grown.2.1]
  have : w0.heap[B]? = none := by have := h.base; simp; omega
  simp [World.frozen?, this]
theorem St.drew (h : St w0 B N d W) : St w0 B N d W.drew := ⟨h.grown.drew, h.base, h.lt, h.c0, h.c1, h.c2⟩
theorem St.alloc (h : St w0 B N d W) (c : Array Value) (t : TypeId) : St w0 B N d (W.alloc (.cells c t)) where
  grown := h.grown.alloc c t
  base := h.base
  lt := by show B < (W.heap.push _).size; have := h.lt; simp; omega
  c0 := fun i hi => (World.cell?_alloc_lt (w := W) (o := .cells c t) (a := ⟨B, i * 3, none⟩) h.lt).trans (h.c0 i hi)
  c1 := fun i hi => (World.cell?_alloc_lt (w := W) (o := .cells c t) (a := ⟨B, i * 3 + 1, none⟩) h.lt).trans (h.c1 i hi)
  c2 := fun i hi => (World.cell?_alloc_lt (w := W) (o := .cells c t) (a := ⟨B, i * 3 + 2, none⟩) h.lt).trans (h.c2 i hi)
/-- The row reads alike: another name for the same data. -/
theorem St.eq {e : Nat → M} (h : St w0 B N d W) (he : d = e) : St w0 B N e W := he ▸ h

def upd (d : Nat → M) (i : Nat) (v : M) : Nat → M := fun k => if k = i then v else d k
theorem ne_off {i j : Nat} (h : i ≠ j) : (⟨B, i, none⟩ : Addr) ≠ ⟨B, j, none⟩ := fun e => h (by injection e)

theorem St.put (h : St w0 B N d W) (i : Nat) (hi : i < N) (v : M) :
    St w0 B N (upd d i v) (((W.setCell ⟨B, i * 3, none⟩ (.int .i64 v.1)).setCell ⟨B, i * 3 + 1, none⟩ (.int .i64 v.2.1)).setCell ⟨B, i * 3 + 2, none⟩ (.bool v.2.2)) where
  grown := ((h.grown.setCell (a := ⟨B, i * 3, none⟩) h.base _).setCell (a := ⟨B, i * 3 + 1, none⟩) h.base _).setCell (a := ⟨B, i * 3 + 2, none⟩) h.base _
  base := h.base
  lt := by have := h.lt; simpa using this
  c0 := fun k hk => by
    rw [World.cell?_setCell_other _ _ _ _ (ne_off (by omega)), World.cell?_setCell_other _ _ _ _ (ne_off (by omega))]
    by_cases e : k = i
    · subst e; rw [World.cell?_setCell_same _ _ _ (h.c0 k hk)]; simp [upd]
    · rw [World.cell?_setCell_other _ _ _ _ (ne_off (by omega)), h.c0 k hk]; simp [upd, e]
  c1 := fun k hk => by
    rw [World.cell?_setCell_other _ _ _ _ (ne_off (by omega))]
    by_cases e : k = i
    · subst e
      rw [World.cell?_setCell_same _ _ _ (u := .int .i64 (d k).2.1) (by rw [World.cell?_setCell_other _ _ _ _ (ne_off (by omega))]; exact h.c1 k hk)]; simp [upd]
    · rw [World.cell?_setCell_other _ _ _ _ (ne_off (by omega)), World.cell?_setCell_other _ _ _ _ (ne_off (by omega)), h.c1 k hk]; simp [upd, e]
  c2 := fun k hk => by
    by_cases e : k = i
    · subst e
      rw [World.cell?_setCell_same _ _ _ (u := .bool (d k).2.2) (by rw [World.cell?_setCell_other _ _ _ _ (ne_off (by omega)), World.cell?_setCell_other _ _ _ _ (ne_off (by omega))]; exact h.c2 k hk)]; simp [upd]
    · rw [World.cell?_setCell_other _ _ _ _ (ne_off (by omega)), World.cell?_setCell_other _ _ _ _ (ne_off (by omega)), World.cell?_setCell_other _ _ _ _ (ne_off (by omega)), h.c2 k hk]; simp [upd, e]

theorem upd_sw (d : Nat → M) (i j : Nat) (h : i ≠ j) : upd (upd d i (d j)) j (d i) = sw d i j := by
  funext k
  simp only [upd, sw]
  by_cases e1 : k = i
  · subst e1; rw [if_neg h, if_pos rfl, if_pos rfl]
  · by_cases e2 : k = j
    · subst e2; rw [if_pos rfl, if_neg e1, if_pos rfl]
    · rw [if_neg e2, if_neg e1, if_neg e1, if_neg e2]

/-- 'data[i], data[j] = data[j], data[i]'. -/
theorem St.swap (h : St w0 B N d W) (i j : Nat) (hi : i < N) (hj : j < N) (hne : i ≠ j) :
    St w0 B N (sw d i j) ((((((W.setCell ⟨B, i * 3, none⟩ (.int .i64 (d j).1)).setCell ⟨B, i * 3 + 1, none⟩ (.int .i64 (d j).2.1)).setCell ⟨B, i * 3 + 2, none⟩ (.bool (d j).2.2)).setCell ⟨B, j * 3, none⟩ (.int .i64 (d i).1)).setCell ⟨B, j * 3 + 1, none⟩ (.int .i64 (d i).2.1)).setCell ⟨B, j * 3 + 2, none⟩ (.bool (d i).2.2)) :=
  ((h.put i hi (d j)).put j hj (d i)).eq (upd_sw d i j hne)
end
end Go.Proofs.Ybulkfvu
