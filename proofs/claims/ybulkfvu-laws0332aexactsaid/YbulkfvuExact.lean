/-
  THE WALK of audit.LawS0332AExact.
-/
import Derived.Test.YbulkfvuSearch
namespace Go.Proofs.Ybulkfvu
open Go.RowKit
open Pl (M Srt)

/-- The law's own loop: the value of the last moment below at_. -/
def wantTo (d : Nat → M) (at_ : Int) : Nat → Int × Bool
  | 0 => (0, false)
  | k + 1 => if (d k).1 < at_ then (d k).2 else wantTo d at_ k
theorem want_low {d : Nat → M} {at_ : Int} {i : Nat} (h : ∀ k, k < i → (d k).1 < at_) : wantTo d at_ i = before d i := by
  cases i with
  | zero => rfl
  | succ i => simp only [wantTo, before]; rw [if_pos (h i (by omega))]
theorem want_high {d : Nat → M} {at_ : Int} {i N : Nat} (h : ∀ k, i ≤ k → k < N → at_ ≤ (d k).1) : ∀ k, i ≤ k → k ≤ N → wantTo d at_ k = wantTo d at_ i
  | 0, h1, _ => by rw [show i = 0 from by omega]
  | k + 1, h1, h2 => by
    by_cases hk : i = k + 1
    · rw [hk]
    · simp only [wantTo]
      rw [if_neg (by have := h k (by omega) (by omega); omega)]
      exact want_high h k (by omega) (by omega)
theorem want_found {d : Nat → M} {at_ : Int} {N i : Nat} (h : Found d N at_ i) : before d i = wantTo d at_ N :=
  ((want_high h.2.2 N h.1 (Nat.le_refl _)).trans (want_low h.2.1)).symm

theorem St.other {w0 : World} {B N : Nat} {d : Nat → M} {W : World} (h : St w0 B N d W) (V k : Nat) (hV : V ≠ B) (hb : w0.heap.size ≤ V) (v : Value) : St w0 B N d (W.setCell ⟨V, k, none⟩ v) where
  grown := h.grown.setCell (a := ⟨V, k, none⟩) hb v
  base := h.base
  lt := by have := h.lt; simpa using this
  c0 := fun i hi => (World.cell?_setCell_other _ _ _ _ (fun e => hV (by injection e))).trans (h.c0 i hi)
  c1 := fun i hi => (World.cell?_setCell_other _ _ _ _ (fun e => hV (by injection e))).trans (h.c1 i hi)
  c2 := fun i hi => (World.cell?_setCell_other _ _ _ _ (fun e => hV (by injection e))).trans (h.c2 i hi)

set_option maxRecDepth 100000 in
set_option maxHeartbeats 2000000 in
theorem exact_long (a0 : Option Addr) (len cap : Nat) (at_ : Int) (w : World) (h : 1024 < len) :
    Calls Yba.prog 3 #[.slice a0 len cap, .int .i64 at_] w fun e w' => e = .returned (.bool true) ∧ Grown w w' := by
  go_enter Yba.func3, Yba.ntmps3
  go_wp2
  go_ret
  exact ⟨rfl, Grown.refl _⟩

set_option maxRecDepth 100000 in
set_option maxHeartbeats 2000000 in
theorem exact_short (a0 : Option Addr) (len cap : Nat) (at_ : Int) (w : World) (h : len ≤ 1024)
    (hb : Calls Yba.prog 5 #[.slice a0 len cap] w fun e w' => e = .returned (.slice (some ⟨w.heap.size, 0, none⟩) len len) ∧ ∃ d, St w w.heap.size len d w' ∧ Srt d 0 len) :
    Calls Yba.prog 3 #[.slice a0 len cap, .int .i64 at_] w fun e w' => e = .returned (.bool true) ∧ Grown w w' := by
  go_enter Yba.func3, Yba.ntmps3
  go_wp2_with fail
  refine hb.mono ?_
  rintro e W ⟨rfl, d, st, o⟩
  clear hb
  have hbase := st.base
  have hlt := st.lt
  have o' : Hid (Srt d 0 len) := o
  clear o
  have st1 := st.alloc #[.int .i64 0, .bool false] 27
  have f1 : ∀ k, (W.alloc (.cells #[.int .i64 0, .bool false] 27)).frozen? ⟨W.heap.size, k, none⟩ = false := fun k => by
    rw [frozen?_alloc_cells]; simp [World.frozen?]
  go_wp2
  go_loopw [7] (fun x W' => ∃ k : Nat, k ≤ len ∧ x = .int .i64 (k : Int) ∧ St w w.heap.size len d W' ∧ W'.cell? ⟨W.heap.size, 0, none⟩ = some (.int .i64 (wantTo d at_ k).1) ∧ W'.cell? ⟨W.heap.size, 1, none⟩ = some (.bool (wantTo d at_ k).2) ∧ ∀ j, W'.frozen? ⟨W.heap.size, j, none⟩ = false) (fun x _ => len - (intOf x).toNat)
  case atStart => exact ⟨0, by omega, rfl, st1, by simp [wantTo], by simp [wantTo], f1⟩
  case round =>
    clear st1 f1 st
    obtain ⟨k, hk, rfl, st, v0, v1, fz⟩ := hrel
    by_cases hlk : k < len
    · have p0 := st.c0 k hlk
      have p1 := st.c1 k hlk
      have p2 := st.c2 k hlk
      by_cases hc : (d k).1 < at_
      · go_wp2
        have ew : wantTo d at_ (k + 1) = (d k).2 := by simp only [wantTo]; rw [if_pos hc]
        refine ⟨⟨k + 1, by omega, by go_num, (st.other _ _ (by omega) (by omega) _).other _ _ (by omega) (by omega) _, ?_, ?_, fun j => ?_⟩, by simp [intOf]; omega⟩
        · rw [ew, World.cell?_setCell_other _ _ _ _ (ne_off (by omega)), World.cell?_setCell_same _ _ _ v0]
        · rw [ew, World.cell?_setCell_same _ _ _ (u := .bool (wantTo d at_ k).2) (by rw [World.cell?_setCell_other _ _ _ _ (ne_off (by omega))]; exact v1)]
        · simpa using fz j
      · go_wp2
        have ew : wantTo d at_ (k + 1) = wantTo d at_ k := by simp only [wantTo]; rw [if_neg hc]
        exact ⟨⟨k + 1, by omega, by go_num, st, by rw [ew]; exact v0, by rw [ew]; exact v1, fz⟩, by simp [intOf]; omega⟩
    · obtain rfl : k = len := by omega
      go_wp2
      go_region_held3 (fun w' => w'.cell? ⟨W.heap.size, 0, none⟩ = some (.int .i64 (wantTo d at_ k).1) ∧ w'.cell? ⟨W.heap.size, 1, none⟩ = some (.bool (wantTo d at_ k).2)) (go_keep) (first | (go_at_call 6; refine (newest_any w w.heap.size k d at_ _ h o'.out st.drew).mono ?_; rintro e w' ⟨i, hF, rfl, hg⟩; have u0 := cell_grown hg v0; have u1 := cell_grown hg v1; rw [want_found hF]))
      go_wp2
      go_ret
      exact ⟨rfl, grown_trans st.grown.drew hg⟩
end Go.Proofs.Ybulkfvu
