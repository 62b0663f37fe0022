/-
  THE ARGUMENT (a slice of ZzS0332AMoment) OPENED: what zzs0332abuild (5) does with it.
-/
import Derived.Test.YbulkfvuBuild
import Derived.ProofKit
import Derived.OpenShut
import Derived.Deep.Strs
import Derived.Deep.Slices
namespace Go.Proofs.Ybulkfvu
open Go.RowKit Go.ChangeShapes Go.WideShapes Go.Deep
open Pl (M Srt)

set_option maxRecDepth 100000 in
set_option maxHeartbeats 2000000 in
theorem build_zero (a0 : Option Addr) (cap : Nat) (w : World) :
    Calls Yba.prog 5 #[.slice a0 0 cap] w fun e w' => e = .returned (.slice (some ⟨w.heap.size, 0, none⟩) 0 0) ∧ ∃ d, St w w.heap.size 0 d w' ∧ Srt d 0 0 := by
  have hmk := run_make29 0 (by omega) w
  rw [show ((0 : Nat) : Int) = 0 from rfl] at hmk
  have s0 := st_made w 0
  have hsort := fun W' (st : St w w.heap.size 0 (fun _ => (0, 0, false)) W') => sort_any w w.heap.size 0 _ W' (by omega) st
  go_enter Yba.func5, Yba.ntmps5
  go_wp2
  refine wp_loop_rounds 1 ?_
  rw [rounds_succ]
  go_wp2_with (go_at_call 7; refine (hsort _ s0).mono ?_; rintro e w' ⟨rfl, d', st', o⟩)
  go_ret
  exact ⟨rfl, d', st', o⟩

theorem cells33 : Yba.prog.cellsOf 33 = 3 := by kernel_rfl
theorem cells2 : Yba.prog.cellsOf 2 = 1 := by kernel_rfl
theorem cells4 : Yba.prog.cellsOf 4 = 1 := by kernel_rfl

theorem open_ms {H : Type} {enc : TypeId × Value → H} {W : World} {fuel : Nat} {a0 : Option Addr} {len cap : Nat} {x : DataW H × List MemPlace}
    (h : DataW.trod enc Yba.prog W 0 (fun _ => true) true fuel 22 [.slice a0 len cap] = some x) :
    len = 0 ∨ ∃ (b off : Nat) (f : Nat → M), a0 = some ⟨b, off, none⟩ ∧ MsAt W b off len f := by
  rcases open_slice Yba.underlying22 h with ⟨hcs, _⟩ | ⟨a, l, c, m, n, D, Pl, hcs, _, hl, _, hm, _, hx⟩
  · simp only [List.cons.injEq, Value.slice.injEq, and_true] at hcs
    exact Or.inl hcs.2.1
  · simp only [List.cons.injEq, Value.slice.injEq, and_true] at hcs
    obtain ⟨rfl, rfl, rfl⟩ := hcs
    simp only [if_true] at hm
    subst hm
    have each : ∀ i, i < len → ∃ q : M, W.cell? (a.add (i * 3)) = some (.int .i64 q.1) ∧ W.cell? (a.add (i * 3 + 1)) = some (.int .i64 q.2.1) ∧ W.cell? (a.add (i * 3 + 2)) = some (.bool q.2.2) := by
      intro i hi
      obtain ⟨cs', h1, h2⟩ := hx i (by omega)
      rw [cells33] at h1
      obtain ⟨_, hlen, hcell⟩ := World.cells?_some h1
      obtain ⟨y0, y1, y2, k, _, _, g0, g1, g2⟩ := trod_struct3 Yba.underlying33 h2
      match cs', hlen with
      | [v0, v1, v2], _ =>
        obtain ⟨z0, e0, _, _⟩ := DataW.trod_int Yba.underlying2 g0
        obtain ⟨z1, e1, _, _⟩ := DataW.trod_int Yba.underlying2 g1
        obtain ⟨z2, e2, _⟩ := DataW.trod_bool Yba.underlying4 g2
        simp [cells2, cells4] at e0 e1 e2
        subst e0 e1 e2
        have c0 := hcell 0 (by omega)
        have c1 := hcell 1 (by omega)
        have c2 := hcell 2 (by omega)
        rw [add_add] at c0 c1 c2
        exact ⟨(z0, z1, z2), by simpa using c0, by simpa using c1, by simpa using c2⟩
    by_cases h0 : len = 0
    · exact Or.inl h0
    · right
      obtain ⟨f, hf⟩ := choose_lt each
      obtain ⟨b, off, spot⟩ := a
      have hspot : spot = none := by simpa [Addr.add] using World.cell?_spot (hf 0 (by omega)).1
      subst hspot
      refine ⟨b, off, f, rfl, fun i hi => ?_⟩
      have := hf i hi
      simp only [add_plain, ← Nat.add_assoc] at this
      exact this

/-- zzs0332abuild, whatever slice can be read. -/
theorem build_any {H : Type} {enc : TypeId × Value → H} {W : World} {fuel : Nat} {a0 : Option Addr} {len cap : Nat} {x : DataW H × List MemPlace} (hn : len ≤ 1024)
    (h : DataW.trod enc Yba.prog W 0 (fun _ => true) true fuel 22 [.slice a0 len cap] = some x) :
    Calls Yba.prog 5 #[.slice a0 len cap] W fun e w' => e = .returned (.slice (some ⟨W.heap.size, 0, none⟩) len len) ∧ ∃ d, St W W.heap.size len d w' ∧ Srt d 0 len := by
  rcases open_ms h with rfl | ⟨b, off, f, rfl, hm⟩
  · exact build_zero a0 cap W
  · exact build_some W b off len cap f hn hm
end Go.Proofs.Ybulkfvu
