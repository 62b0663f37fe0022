/-
  slices.SortStableFunc (7) and zzs0332abuild (5): a new row, sorted.
-/
import Derived.Test.YbulkfvuStable
import Derived.Laws.MakeOwn
namespace Go.Proofs.Ybulkfvu
open Go.RowKit
open Pl (M Srt Sub)

theorem sort_any (w0 : World) (B N : Nat) (d : Nat → M) (W : World) (hN : N ≤ 1024) (hst : St w0 B N d W) :
    Calls Yba.prog 7 #[.slice (some ⟨B, 0, none⟩) N N, .func (.func 8) #[] #[]] W fun e w' => e = .returned (.tuple #[]) ∧ ∃ d', St w0 B N d' w' ∧ Srt d' 0 N := by
  go_enter Yba.func7, Yba.ntmps7
  go_wp2_with (go_at_call 12; refine (stable_any w0 B N d _ hN hst).mono ?_; rintro e w' ⟨rfl, d', st, o⟩)
  go_end0
  exact ⟨rfl, d', st, o⟩

/-- A cell of the old world is there still. -/
theorem cell_grown {w W : World} {a : Addr} {v : Value} (hg : Grown w W) (h : w.cell? a = some v) : W.cell? a = some v := by
  have hb := (World.keptBut_none_iff.1 hg.1).2.2 a.block (World.block_lt_of_cell? _ _ h)
  unfold World.cell? at h ⊢
  rw [hb]; exact h

theorem zero29 : (Yba.prog.info? 29).map (fun i => (i.zero, i.size, i.bytes)) = some (some (.agg #[.int .i64 0, .int .i64 0, .bool false]), 3, 24) := by kernel_rfl
theorem run_make29 (n : Nat) (hn : n ≤ 1024) (w : World) :
    (Instr.makeSlice 24 (.int .i64 (n : Int)) (.int .i64 (n : Int))).run Yba.prog w = .ok (.slice (some ⟨w.heap.size, 0, none⟩) n n) (w.alloc (.cells (madeCells #[.int .i64 0, .int .i64 0, .bool false] (n * 3)) 29)) := by
  obtain ⟨i, hi, hzz⟩ := Option.map_eq_some_iff.1 zero29
  simp only [Prod.mk.injEq] at hzz
  obtain ⟨hz, hs, hb⟩ := hzz
  have h := run_makeSlice (P := Yba.prog) w 24 29 i _ Yba.underlying24 hi hz .i64 .i64 (n : Int) (n : Int) (by omega) (by omega) (by rw [hs]; omega) (by rw [hb]; omega) (by omega)
  rw [hs] at h
  simpa [Value.cells] using h
theorem made3 (n i : Nat) (h : i < n) : (madeCells #[Value.int .i64 0, .int .i64 0, .bool false] (n * 3))[i * 3]? = some (.int .i64 0) ∧ (madeCells #[Value.int .i64 0, .int .i64 0, .bool false] (n * 3))[i * 3 + 1]? = some (.int .i64 0) ∧ (madeCells #[Value.int .i64 0, .int .i64 0, .bool false] (n * 3))[i * 3 + 2]? = some (.bool false) := by
  have m0 : i * 3 % 3 = 0 := by omega
  have m1 : (i * 3 + 1) % 3 = 1 := by omega
  have m2 : (i * 3 + 2) % 3 = 2 := by omega
  refine ⟨?_, ?_, ?_⟩
  · simp [madeCells, show i * 3 < n * 3 by omega]
  · simp [madeCells, show i * 3 + 1 < n * 3 by omega, m1]
  · simp [madeCells, show i * 3 + 2 < n * 3 by omega, m2]
theorem st_made (w : World) (n : Nat) : St w w.heap.size n (fun _ => (0, 0, false)) (w.alloc (.cells (madeCells #[.int .i64 0, .int .i64 0, .bool false] (n * 3)) 29)) where
  grown := (Grown.refl w).alloc _ _
  base := Nat.le_refl _
  lt := by show w.heap.size < (w.heap.push _).size; simp
  c0 := fun i hi => by rw [World.cell?_alloc_new]; exact (made3 n i hi).1
  c1 := fun i hi => by rw [World.cell?_alloc_new]; exact (made3 n i hi).2.1
  c2 := fun i hi => by rw [World.cell?_alloc_new]; exact (made3 n i hi).2.2

/-- What the argument's cells hold. -/
def MsAt (w : World) (b off n : Nat) (f : Nat → M) : Prop := ∀ i, i < n → w.cell? ⟨b, off + i * 3, none⟩ = some (.int .i64 (f i).1) ∧ w.cell? ⟨b, off + i * 3 + 1, none⟩ = some (.int .i64 (f i).2.1) ∧ w.cell? ⟨b, off + i * 3 + 2, none⟩ = some (.bool (f i).2.2)

set_option maxRecDepth 100000 in
set_option maxHeartbeats 2000000 in
theorem build_some (w : World) (b off n c : Nat) (f : Nat → M) (hn : n ≤ 1024) (hm : MsAt w b off n f) :
    Calls Yba.prog 5 #[.slice (some ⟨b, off, none⟩) n c] w fun e w' => e = .returned (.slice (some ⟨w.heap.size, 0, none⟩) n n) ∧ ∃ d, St w w.heap.size n d w' ∧ Srt d 0 n := by
  have hmk := run_make29 n hn w
  have HM : Hid (MsAt w b off n f) := hm
  have s0 := st_made w n
  clear hm
  go_enter Yba.func5, Yba.ntmps5
  go_wp2
  go_loopw [4] (fun x W => ∃ k : Nat, k ≤ n ∧ x = .int .i64 (k : Int) ∧ ∃ d, St w w.heap.size n d W) (fun x _ => n - (intOf x).toNat)
  case atStart => exact ⟨0, by omega, rfl, _, s0⟩
  case round =>
    clear s0 hmk
    obtain ⟨k, hk, rfl, d, st⟩ := hrel
    by_cases hlt : k < n
    · have m0 := cell_grown st.grown (HM.out k hlt).1
      have m1 := cell_grown st.grown (HM.out k hlt).2.1
      have m2 := cell_grown st.grown (HM.out k hlt).2.2
      have t0 := st.c0 k hlt
      have t1 := st.c1 k hlt
      have t2 := st.c2 k hlt
      have fr := st.fr
      have S := st.put k hlt (f k)
      generalize f k = v at *
      go_wp2
      go_region
      go_wp2
      go_roundw
      case rel => exact ⟨k + 1, by omega, by go_num, _, S.drew⟩
      case measure => simp [intOf]; omega
    · go_wp2_with (go_at_call 7; refine (sort_any w w.heap.size n d _ hn st).mono ?_; rintro e w' ⟨rfl, d', st', o⟩)
      go_ret
      exact ⟨rfl, d', st', o⟩

set_option maxRecDepth 100000 in
set_option maxHeartbeats 2000000 in
theorem build_none (w : World) :
    Calls Yba.prog 5 #[.slice none 0 0] w fun e w' => e = .returned (.slice (some ⟨w.heap.size, 0, none⟩) 0 0) ∧ ∃ d, St w w.heap.size 0 d w' ∧ Srt d 0 0 := by
  have hmk := run_make29 0 (by omega) w
  rw [show ((0 : Nat) : Int) = 0 from rfl] at hmk
  have s0 := st_made w 0
  have hsort := fun W' (st : St w w.heap.size 0 (fun _ => (0, 0, false)) W') => sort_any w w.heap.size 0 _ W' (by omega) st
  go_enter Yba.func5, Yba.ntmps5
  go_wp2
  refine wp_loop_rounds 1 ?_
  rw [rounds_succ]
  go_wp2_with (go_at_call 7; refine (hsort _ s0).mono ?_; rintro e w' ⟨rfl, d', st', o⟩)
  go_ret
  exact ⟨rfl, d', st', o⟩
end Go.Proofs.Ybulkfvu
