/-
  THE WALK of audit.LawS0332AAfterAll.
-/
import Derived.Test.YbulkfvuSearch
namespace Go.Proofs.Ybulkfvu
open Go.RowKit
open Pl (M Srt)

/-- Above every point: the last value. -/
theorem found_last {d : Nat → M} {at_ : Int} {K i : Nat} (h : Found d (K + 1) at_ i) (hl : (d K).1 < at_) : before d i = (d K).2 := by
  obtain ⟨h1, h2, h3⟩ := h
  rcases Nat.lt_or_ge i (K + 1) with hi | hi
  · have := h3 K (by omega) (by omega)
    omega
  · obtain rfl : i = K + 1 := by omega
    rfl
/-- At or below the first point: nothing. -/
theorem found_none {d : Nat → M} {at_ : Int} {N i : Nat} (h : Found d N at_ i) (hl : N = 0 ∨ at_ ≤ (d 0).1) : before d i = (0, false) := by
  obtain ⟨h1, h2, h3⟩ := h
  cases i with
  | zero => rfl
  | succ i =>
    rcases hl with hl | hl
    · omega
    · have := h2 0 (by omega); omega

set_option maxRecDepth 100000 in
set_option maxHeartbeats 2000000 in
theorem after_long (a0 : Option Addr) (len cap : Nat) (at_ : Int) (w : World) (h : 1024 < len) :
    Calls Yba.prog 4 #[.slice a0 len cap, .int .i64 at_] w fun e w' => e = .returned (.bool true) ∧ Grown w w' := by
  go_enter Yba.func4, Yba.ntmps4
  go_wp2
  go_ret
  exact ⟨rfl, Grown.refl _⟩

set_option maxRecDepth 100000 in
set_option maxHeartbeats 2000000 in
theorem after_zero (a0 : Option Addr) (cap : Nat) (at_ : Int) (w : World)
    (hb : Calls Yba.prog 5 #[.slice a0 0 cap] w fun e w' => e = .returned (.slice (some ⟨w.heap.size, 0, none⟩) 0 0) ∧ ∃ d, St w w.heap.size 0 d w' ∧ Srt d 0 0) :
    Calls Yba.prog 4 #[.slice a0 0 cap, .int .i64 at_] w fun e w' => e = .returned (.bool true) ∧ Grown w w' := by
  go_enter Yba.func4, Yba.ntmps4
  go_wp2_with fail
  refine hb.mono ?_
  rintro e W ⟨rfl, d, st, o⟩
  clear hb
  have HN := newest_any w w.heap.size 0 d at_ W (by omega) o st
  clear o
  go_wp2_with fail
  refine HN.mono ?_
  rintro e w' ⟨i, hF, rfl, hg⟩
  rw [found_none hF (Or.inl rfl)]
  go_wp2
  go_ret
  exact ⟨rfl, grown_trans st.grown hg⟩

set_option maxRecDepth 100000 in
set_option maxHeartbeats 2000000 in
theorem after_some (a0 : Option Addr) (K cap : Nat) (at_ : Int) (w : World) (h : K + 1 ≤ 1024)
    (hb : Calls Yba.prog 5 #[.slice a0 (K + 1) cap] w fun e w' => e = .returned (.slice (some ⟨w.heap.size, 0, none⟩) (K + 1) (K + 1)) ∧ ∃ d, St w w.heap.size (K + 1) d w' ∧ Srt d 0 (K + 1)) :
    Calls Yba.prog 4 #[.slice a0 (K + 1) cap, .int .i64 at_] w fun e w' => e = .returned (.bool true) ∧ Grown w w' := by
  have hne : (((K : Int) + 1) == 0) = false := by rw [beq_eq_false_iff_ne]; omega
  have i1 : (0 : Int) ≤ (K : Int) := by omega
  go_enter Yba.func4, Yba.ntmps4
  go_wp2_with fail
  refine hb.mono ?_
  rintro e W ⟨rfl, d, st, o⟩
  clear hb
  have o' : Hid (Srt d 0 (K + 1)) := o
  clear o
  have p0 := st.c0 K (by omega)
  have p1 := st.c1 K (by omega)
  have p2 := st.c2 K (by omega)
  have z0 := st.c0 0 (by omega)
  have hlt := st.lt
  by_cases cl : (d K).1 < at_
  · have cz : ¬ at_ ≤ (d 0).1 := by
      have := o'.out.le (Nat.zero_le 0) (Nat.zero_le K) (by omega)
      omega
    have q1 : (W.alloc (.cells #[.int .i64 (d K).1, .int .i64 (d K).2.1, .bool (d K).2.2] 29)).cell? ⟨W.heap.size, 1, none⟩ = some (.int .i64 (d K).2.1) := by simp
    have q2 : (W.alloc (.cells #[.int .i64 (d K).1, .int .i64 (d K).2.1, .bool (d K).2.2] 29)).cell? ⟨W.heap.size, 2, none⟩ = some (.bool (d K).2.2) := by simp
    have st1 := st.alloc #[.int .i64 (d K).1, .int .i64 (d K).2.1, .bool (d K).2.2] 29
    have y0 : (W.alloc (.cells #[.int .i64 (d K).1, .int .i64 (d K).2.1, .bool (d K).2.2] 29)).cell? ⟨w.heap.size, 0, none⟩ = some (.int .i64 (d 0).1) := by simpa using st1.c0 0 (by omega)
    have HN := newest_any w w.heap.size (K + 1) d at_ _ h o'.out st1.drew
    have hgr := st1.grown
    clear st st1
    go_wp2_with fail
    go_region_held3 (fun w' => w'.cell? ⟨W.heap.size, 1, none⟩ = some (.int .i64 (d K).2.1) ∧ w'.cell? ⟨W.heap.size, 2, none⟩ = some (.bool (d K).2.2)) (go_keep) (first | (go_at_call 6; refine HN.mono ?_; rintro e w' ⟨i, hF, rfl, hg⟩; have u1 := cell_grown hg q1; have u2 := cell_grown hg q2; have u0 := cell_grown hg y0; rw [found_last hF cl]))
    go_wp2
    go_ret
    exact ⟨rfl, grown_trans hgr.drew hg⟩
  · by_cases cz : at_ ≤ (d 0).1
    · have HN := newest_any w w.heap.size (K + 1) d at_ _ h o'.out (st.alloc #[.int .i64 (d K).1, .int .i64 (d K).2.1, .bool (d K).2.2] 29)
      go_wp2_with fail
      refine HN.mono ?_
      rintro e w' ⟨i, hF, rfl, hg⟩
      rw [found_none hF (Or.inr cz)]
      go_wp2
      go_ret
      exact ⟨rfl, grown_trans (st.grown.alloc _ _) hg⟩
    · go_wp2_with fail
      go_ret
      exact ⟨rfl, st.grown.alloc _ _⟩

theorem after_short (a0 : Option Addr) (len cap : Nat) (at_ : Int) (w : World) (h : len ≤ 1024)
    (hb : Calls Yba.prog 5 #[.slice a0 len cap] w fun e w' => e = .returned (.slice (some ⟨w.heap.size, 0, none⟩) len len) ∧ ∃ d, St w w.heap.size len d w' ∧ Srt d 0 len) :
    Calls Yba.prog 4 #[.slice a0 len cap, .int .i64 at_] w fun e w' => e = .returned (.bool true) ∧ Grown w w' := by
  cases len with
  | zero => exact after_zero a0 cap at_ w hb
  | succ K => exact after_some a0 K cap at_ w h hb
end Go.Proofs.Ybulkfvu
