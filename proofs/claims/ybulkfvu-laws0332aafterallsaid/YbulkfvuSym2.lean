/-
  slices.symMergeCmpFunc (15), the way on which the right piece is one element.
-/
import Derived.Test.YbulkfvuIns
namespace Go.Proofs.Ybulkfvu
open Go.RowKit
open Pl (M sw Srt Sub)

set_option maxRecDepth 100000 in
set_option maxHeartbeats 1000000 in
theorem sym_last (w0 : World) (B N a m b : Nat) (d : Nat → M) (W : World) (hN : N ≤ 1024) (h0 : b = m + 1) (h1 : a + 1 < m) (h2 : b ≤ N) (hs : Srt d a m) (hst : St w0 B N d W) :
    Calls Yba.prog 15 #[.slice (some ⟨B, 0, none⟩) N N, .int .i64 a, .int .i64 m, .int .i64 b, .func (.func 8) #[] #[]] W fun e w' => e = .returned (.tuple #[]) ∧ ∃ d', St w0 B N d' w' ∧ Srt d' a b ∧ Sub a b d d' := by
  have e1 : ((m : Int) - (a : Int) == 1) = false := by rw [beq_eq_false_iff_ne]; omega
  have e2 : ((b : Int) - (m : Int) == 1) = true := by rw [beq_iff_eq]; omega
  have am : m < b := by omega
  have ma : b ≤ m + 1 := by omega
  clear h0
  go_enter Yba.func15, Yba.ntmps15
  go_wp2
  go_loopw [14, 15] (fun p q w => ∃ i j : Nat, a ≤ i ∧ i ≤ j ∧ j ≤ m ∧ p = .int .i64 (i : Int) ∧ q = .int .i64 (j : Int) ∧ St w0 B N d w ∧ Hid ((∀ h, a ≤ h → h < i → (d h).1 ≤ (d m).1) ∧ (∀ h, j ≤ h → h < m → (d m).1 < (d h).1))) (fun p q _ => (intOf q).toNat - (intOf p).toNat)
  case atStart => exact ⟨a, m, by omega, by omega, by omega, rfl, rfl, hst, ⟨fun h h1 h2 => by omega, fun h h1 h2 => by omega⟩⟩
  case round =>
    clear hst
    obtain ⟨i, j, i1, i2, i3, rfl, rfl, st, HB⟩ := hrel
    by_cases hlt : i < j
    · obtain ⟨h, hh⟩ : ∃ h, h = (i + j) / 2 := ⟨_, rfl⟩
      have h1' : i ≤ h := by omega
      have h2' : h < j := by omega
      have p0 := st.c0 m (by omega)
      have p1 := st.c1 m (by omega)
      have p2 := st.c2 m (by omega)
      have q0 := st.c0 h (by omega)
      have q1 := st.c1 h (by omega)
      have q2 := st.c2 h (by omega)
      have hhI : ((i : Int) + (j : Int)) / 2 = (h : Int) := by omega
      have HH : Hid (h = (i + j) / 2) := hh
      clear hh
      generalize hp : d m = p at *
      generalize hq : d h = q at *
      have HP : Hid (d m = p) := hp
      have HQ : Hid (d h = q) := hq
      clear hp hq
      have k1 : (0 : Int) ≤ (h : Int) := by omega
      have k2 : (h : Int) < (N : Int) := by omega
      have k3 : (0 : Int) ≤ (m : Int) := by omega
      have k4 : (m : Int) < (N : Int) := by omega
      by_cases hc : p.1 < q.1
      · have hneg := cmpI_neg hc
        go_wp2
        go_region_held3 (fun w' => w'.cell? ⟨B, m * 3, none⟩ = some (.int .i64 p.1) ∧ w'.cell? ⟨B, m * 3 + 1, none⟩ = some (.int .i64 p.2.1) ∧ w'.cell? ⟨B, m * 3 + 2, none⟩ = some (.bool p.2.2) ∧ w'.cell? ⟨B, h * 3, none⟩ = some (.int .i64 q.1) ∧ w'.cell? ⟨B, h * 3 + 1, none⟩ = some (.int .i64 q.2.1) ∧ w'.cell? ⟨B, h * 3 + 2, none⟩ = some (.bool q.2.2)) (go_keep) (first | (go_at_call 8; refine (clo8 _ _ _ _ _ _ _).mono ?_; rintro e w' ⟨rfl, rfl⟩))
        go_wp2
        go_roundw
        case rel =>
          refine ⟨i, h, by omega, by omega, by omega, rfl, rfl, ((st.alloc _ _).alloc _ _).drew, ⟨HB.out.1, fun x x1 x2 => ?_⟩⟩
          have := hs.le (show a ≤ h by omega) x1 x2
          rw [HQ.out] at this; omega
        case measure => simp [intOf]; omega
      · have hpos := cmpI_pos (Int.not_lt.1 hc)
        have hbf : decide (cmpI p.1 q.1 < 0) = false := by rw [decide_eq_false_iff_not]; omega
        go_wp2
        go_region_held3 (fun w' => w'.cell? ⟨B, m * 3, none⟩ = some (.int .i64 p.1) ∧ w'.cell? ⟨B, m * 3 + 1, none⟩ = some (.int .i64 p.2.1) ∧ w'.cell? ⟨B, m * 3 + 2, none⟩ = some (.bool p.2.2) ∧ w'.cell? ⟨B, h * 3, none⟩ = some (.int .i64 q.1) ∧ w'.cell? ⟨B, h * 3 + 1, none⟩ = some (.int .i64 q.2.1) ∧ w'.cell? ⟨B, h * 3 + 2, none⟩ = some (.bool q.2.2)) (go_keep) (first | (go_at_call 8; refine (clo8 _ _ _ _ _ _ _).mono ?_; rintro e w' ⟨rfl, rfl⟩))
        go_wp2
        go_roundw
        case rel =>
          refine ⟨h + 1, j, by omega, by omega, by omega, by go_num, rfl, ((st.alloc _ _).alloc _ _).drew, ⟨fun x x1 x2 => ?_, HB.out.2⟩⟩
          have := hs.le x1 (show x ≤ h by omega) (by omega)
          rw [HQ.out] at this; omega
        case measure => simp [intOf]; omega
    · obtain rfl : i = j := by omega
      go_wp2
      go_loopw [17] (fun p w => ∃ k : Nat, i ≤ k ∧ k ≤ m ∧ p = .int .i64 (k : Int) ∧ St w0 B N (Pl.shr d k m) w) (fun p _ => (intOf p).toNat)
      case atStart => exact ⟨m, by omega, by omega, rfl, st.eq (Pl.shr_start d m).symm⟩
      case round =>
        clear st
        obtain ⟨k, k1, k2, rfl, st⟩ := hrel
        by_cases hk : i < k
        · obtain ⟨K, rfl⟩ : ∃ K, k = K + 1 := ⟨k - 1, by omega⟩
          have fr := st.fr
          have a0 := st.c0 (K + 1) (by omega)
          have a1 := st.c1 (K + 1) (by omega)
          have a2 := st.c2 (K + 1) (by omega)
          have b0 := st.c0 K (by omega)
          have b1 := st.c1 K (by omega)
          have b2 := st.c2 K (by omega)
          have S := st.swap (K + 1) K (by omega) (by omega) (by omega)
          have S2 := Pl.shr_step d (K + 1) m (by omega) k2
          rw [show K + 1 - 1 = K from rfl] at S2
          rw [S2] at S
          clear S2
          generalize Pl.shr d (K + 1) m (K + 1) = p at *
          generalize Pl.shr d (K + 1) m K = q at *
          go_wp2
          go_region
          go_wp2
          go_roundw
          case rel => exact ⟨K, by omega, by omega, rfl, S.drew⟩
          case measure => simp [intOf]
        · obtain rfl : k = i := by omega
          go_wp2
          obtain rfl : b = m + 1 := by omega
          have o := Pl.shr_srt hs i1 k2 HB.out.1 HB.out.2
          have u := Pl.shr_sub d a k m i1 k2
          exact bodyPost_ret (results_none Yba.results15 _ _ _) rfl ⟨rfl, _, st, o, u⟩
end Go.Proofs.Ybulkfvu
