/-
  slices.BinarySearchFunc (10) and (timeline).newestBefore (6) over a sorted row: nothing old is written.
-/
import Derived.Test.YbulkfvuBuild
namespace Go.Proofs.Ybulkfvu
open Go.RowKit
open Pl (M Srt)

theorem grown_trans {a b c : World} (h : Grown a b) (g : Grown b c) : Grown a c :=
  ⟨World.keptBut_trans h.1 (World.keptBut_mono (fun _ f => f) g.1), fun x => (g.2.1 x).trans (h.2.1 x), Nat.le_trans h.2.2 g.2.2⟩
theorem St.later {w0 : World} {B N : Nat} {d : Nat → M} {W W' : World} (h : St w0 B N d W) (g : Grown W W') : St w0 B N d W' :=
  ⟨grown_trans h.grown g, h.base, Nat.lt_of_lt_of_le h.lt g.2.2, fun i hi => cell_grown g (h.c0 i hi), fun i hi => cell_grown g (h.c1 i hi), fun i hi => cell_grown g (h.c2 i hi)⟩

set_option maxRecDepth 100000 in
set_option maxHeartbeats 2000000 in
theorem search_any (w0 : World) (B N : Nat) (d : Nat → M) (at_ : Int) (W : World) (hN : N ≤ 1024) (hs : Srt d 0 N) (hst : St w0 B N d W) :
    Calls Yba.prog 10 #[.slice (some ⟨B, 0, none⟩) N N, .int .i64 at_, .func (.func 11) #[] #[]] W fun e w' => ∃ (i : Nat) (r : Bool), e = .returned (.tuple #[.int .i64 (i : Int), .bool r]) ∧ Grown W w' ∧ i ≤ N ∧
      (∀ h, h < i → (d h).1 < at_) ∧ (∀ h, i ≤ h → h < N → at_ ≤ (d h).1) := by
  go_enter Yba.func10, Yba.ntmps10
  go_wp2
  go_loopw [9, 10] (fun x y w => ∃ i j : Nat, i ≤ j ∧ j ≤ N ∧ x = .int .i64 (i : Int) ∧ y = .int .i64 (j : Int) ∧ Grown W w ∧ St w0 B N d w ∧ Hid ((∀ h, h < i → (d h).1 < at_) ∧ (∀ h, j ≤ h → h < N → at_ ≤ (d h).1))) (fun x y _ => (intOf y).toNat - (intOf x).toNat)
  case atStart => exact ⟨0, N, by omega, by omega, rfl, rfl, Grown.refl _, hst, ⟨fun h h1 => by omega, fun h h1 h2 => by omega⟩⟩
  case round =>
    clear hst
    obtain ⟨i, j, i2, i3, rfl, rfl, hg, st, HB⟩ := hrel
    by_cases hlt : i < j
    · obtain ⟨h, hh⟩ : ∃ h, h = (i + j) / 2 := ⟨_, rfl⟩
      have h1' : i ≤ h := by omega
      have h2' : h < j := by omega
      have hhI : ((i : Int) + (j : Int)) / 2 = (h : Int) := by omega
      have HH : Hid (h = (i + j) / 2) := hh
      clear hh
      have p0 := st.c0 h (by omega)
      have p1 := st.c1 h (by omega)
      have p2 := st.c2 h (by omega)
      obtain ⟨p, hp⟩ : ∃ p, d h = p := ⟨_, rfl⟩
      rw [hp] at p0 p1 p2
      have HP : Hid (d h = p) := hp
      clear hp
      have k1 : (0 : Int) ≤ (h : Int) := by omega
      have k2 : (h : Int) < (N : Int) := by omega
      by_cases hc : p.1 < at_
      · have hneg := cmpI_neg hc
        go_wp2_with (go_at_call 11; refine (clo11 _ _ _ _ _).mono ?_; rintro e w' ⟨rfl, rfl⟩)
        go_roundw
        case rel =>
          refine ⟨h + 1, j, by omega, by omega, by go_num, rfl, hg.alloc _ _, st.alloc _ _, ⟨fun x x1 => ?_, HB.out.2⟩⟩
          have := hs.le (Nat.zero_le x) (show x ≤ h by omega) (by omega)
          rw [HP.out] at this; omega
        case measure => simp [intOf]; omega
      · have hpos := cmpI_pos (Int.not_lt.1 hc)
        go_wp2_with (go_at_call 11; refine (clo11 _ _ _ _ _).mono ?_; rintro e w' ⟨rfl, rfl⟩)
        go_roundw
        case rel =>
          refine ⟨i, h, by omega, by omega, rfl, rfl, hg.alloc _ _, st.alloc _ _, ⟨HB.out.1, fun x x1 x2 => ?_⟩⟩
          have := hs.le (Nat.zero_le h) x1 x2
          rw [HP.out] at this; omega
        case measure => simp [intOf]; omega
    · obtain rfl : i = j := by omega
      by_cases hn : i < N
      · have p0 := st.c0 i hn
        have p1 := st.c1 i hn
        have p2 := st.c2 i hn
        go_wp2_with (go_at_call 11; refine (clo11 _ _ _ _ _).mono ?_; rintro e w' ⟨rfl, rfl⟩)
        all_goals (go_ret2; exact ⟨i, _, rfl, hg.alloc _ _, i3, HB.out.1, HB.out.2⟩)
      · go_wp2_with (go_at_call 11; refine (clo11 _ _ _ _ _).mono ?_; rintro e w' ⟨rfl, rfl⟩)
        all_goals (go_ret2; exact ⟨i, _, rfl, hg, i3, HB.out.1, HB.out.2⟩)

/-- Where the search has ended. -/
def Found (d : Nat → M) (N : Nat) (at_ : Int) (i : Nat) : Prop := i ≤ N ∧ (∀ h, h < i → (d h).1 < at_) ∧ (∀ h, i ≤ h → h < N → at_ ≤ (d h).1)
/-- The value before place i. -/
def before (d : Nat → M) : Nat → Int × Bool
  | 0 => (0, false)
  | i + 1 => (d i).2

set_option maxRecDepth 100000 in
set_option maxHeartbeats 2000000 in
theorem newest_any (w0 : World) (B N : Nat) (d : Nat → M) (at_ : Int) (W : World) (hN : N ≤ 1024) (hs : Srt d 0 N) (hst : St w0 B N d W) :
    Calls Yba.prog 6 #[.slice (some ⟨B, 0, none⟩) N N, .int .i64 at_] W fun e w' => ∃ i : Nat, Found d N at_ i ∧ e = .returned (.agg #[.int .i64 (before d i).1, .bool (before d i).2]) ∧ Grown W w' := by
  have hsr := fun W' (st : St w0 B N d W') => search_any w0 B N d at_ W' hN hs st
  have st1 := hst.alloc #[.int .i64 0, .bool false] 27
  go_enter Yba.func6, Yba.ntmps6
  go_wp2_with fail
  refine (hsr _ st1).mono ?_
  rintro e w' ⟨i, r, rfl, hg, hi, f1, f2⟩
  have hgW : Grown W w' := grown_trans ((Grown.refl W).alloc _ _) hg
  have hF : Found d N at_ i := ⟨hi, f1, f2⟩
  have FH : Hid (Found d N at_ i) := hF
  have r0 := cell_grown hg (a := ⟨W.heap.size, 0, none⟩) (v := .int .i64 0) (by simp)
  have r1 := cell_grown hg (a := ⟨W.heap.size, 1, none⟩) (v := .bool false) (by simp)
  have fz : ∀ k, w'.frozen? ⟨W.heap.size, k, none⟩ = false := fun k => by
    rw [hg.2.1, frozen?_alloc_cells]
    simp [World.frozen?]
  have st2 := hst.later hgW
  clear f1 f2 hF hsr st1 hst
  cases i with
  | zero =>
    have e0 : (((0 : Nat) : Int) == 0) = true := rfl
    go_wp2
    refine bodyPost_ret (v := .agg #[.int .i64 0, .bool false]) (by simp [results, Yba.results6, go_sem, r0, r1]) rfl ⟨0, FH.out, rfl, ?_⟩
    exact (hgW.setCell (a := ⟨W.heap.size, 0, none⟩) (Nat.le_refl _) _).setCell (a := ⟨W.heap.size, 1, none⟩) (Nat.le_refl _) _
  | succ i =>
    have e0 : (((i + 1 : Nat) : Int) == 0) = false := by rw [beq_eq_false_iff_ne]; omega
    have p1 := st2.c1 i (by omega)
    have p2 := st2.c2 i (by omega)
    go_wp2
    refine bodyPost_ret (v := .agg #[.int .i64 (d i).2.1, .bool (d i).2.2]) (by simp [results, Yba.results6, go_sem, r0, r1]) rfl ⟨i + 1, FH.out, rfl, ?_⟩
    exact (hgW.setCell (a := ⟨W.heap.size, 0, none⟩) (Nat.le_refl _) _).setCell (a := ⟨W.heap.size, 1, none⟩) (Nat.le_refl _) _
end Go.Proofs.Ybulkfvu
