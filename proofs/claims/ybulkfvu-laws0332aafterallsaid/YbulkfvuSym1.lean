/-
  slices.symMergeCmpFunc (15), the way on which the left piece is one element.
-/
import Derived.Test.YbulkfvuIns
namespace Go.Proofs.Ybulkfvu
open Go.RowKit
open Pl (M sw Srt Sub)

set_option maxRecDepth 100000 in
set_option maxHeartbeats 1000000 in
theorem sym_one (w0 : World) (B N a m b : Nat) (d : Nat → M) (W : World) (hN : N ≤ 1024) (h0 : m = a + 1) (h1 : m < b) (h2 : b ≤ N) (hs : Srt d m b) (hst : St w0 B N d W) :
    Calls Yba.prog 15 #[.slice (some ⟨B, 0, none⟩) N N, .int .i64 a, .int .i64 m, .int .i64 b, .func (.func 8) #[] #[]] W fun e w' => e = .returned (.tuple #[]) ∧ ∃ d', St w0 B N d' w' ∧ Srt d' a b ∧ Sub a b d d' := by
  have e1 : ((m : Int) - (a : Int) == 1) = true := by rw [beq_iff_eq]; omega
  have am : a < m := by omega
  have ma : m ≤ a + 1 := by omega
  clear h0
  go_enter Yba.func15, Yba.ntmps15
  go_wp2
  go_loopw [10, 11] (fun p q w => ∃ i j : Nat, m ≤ i ∧ i ≤ j ∧ j ≤ b ∧ p = .int .i64 (i : Int) ∧ q = .int .i64 (j : Int) ∧ St w0 B N d w ∧ Hid ((∀ h, m ≤ h → h < i → (d h).1 < (d a).1) ∧ (∀ h, j ≤ h → h < b → (d a).1 ≤ (d h).1))) (fun p q _ => (intOf q).toNat - (intOf p).toNat)
  case atStart => exact ⟨m, b, by omega, by omega, by omega, rfl, rfl, hst, ⟨fun h h1 h2 => by omega, fun h h1 h2 => by omega⟩⟩
  case round =>
    clear hst
    obtain ⟨i, j, i1, i2, i3, rfl, rfl, st, HB⟩ := hrel
    by_cases hlt : i < j
    · obtain ⟨h, hh⟩ : ∃ h, h = (i + j) / 2 := ⟨_, rfl⟩
      have h1' : i ≤ h := by omega
      have h2' : h < j := by omega
      have p0 := st.c0 h (by omega)
      have p1 := st.c1 h (by omega)
      have p2 := st.c2 h (by omega)
      have q0 := st.c0 a (by omega)
      have q1 := st.c1 a (by omega)
      have q2 := st.c2 a (by omega)
      have hhI : ((i : Int) + (j : Int)) / 2 = (h : Int) := by omega
      have HH : Hid (h = (i + j) / 2) := hh
      clear hh
      generalize hp : d h = p at *
      generalize hq : d a = q at *
      have HP : Hid (d h = p) := hp
      have HQ : Hid (d a = q) := hq
      clear hp hq
      have k1 : (0 : Int) ≤ (h : Int) := by omega
      have k2 : (h : Int) < (N : Int) := by omega
      have k3 : (0 : Int) ≤ (a : Int) := by omega
      have k4 : (a : Int) < (N : Int) := by omega
      by_cases hc : p.1 < q.1
      · have hneg := cmpI_neg hc
        go_wp2
        go_region_held3 (fun w' => w'.cell? ⟨B, h * 3, none⟩ = some (.int .i64 p.1) ∧ w'.cell? ⟨B, h * 3 + 1, none⟩ = some (.int .i64 p.2.1) ∧ w'.cell? ⟨B, h * 3 + 2, none⟩ = some (.bool p.2.2) ∧ w'.cell? ⟨B, a * 3, none⟩ = some (.int .i64 q.1) ∧ w'.cell? ⟨B, a * 3 + 1, none⟩ = some (.int .i64 q.2.1) ∧ w'.cell? ⟨B, a * 3 + 2, none⟩ = some (.bool q.2.2)) (go_keep) (first | (go_at_call 8; refine (clo8 _ _ _ _ _ _ _).mono ?_; rintro e w' ⟨rfl, rfl⟩))
        go_wp2
        go_roundw
        case rel =>
          refine ⟨h + 1, j, by omega, by omega, by omega, by go_num, rfl, ((st.alloc _ _).alloc _ _).drew, ⟨fun x x1 x2 => ?_, HB.out.2⟩⟩
          have := hs.le x1 (show x ≤ h by omega) (by omega)
          rw [HP.out] at this; omega
        case measure => simp [intOf]; omega
      · have hpos := cmpI_pos (Int.not_lt.1 hc)
        go_wp2
        go_region_held3 (fun w' => w'.cell? ⟨B, h * 3, none⟩ = some (.int .i64 p.1) ∧ w'.cell? ⟨B, h * 3 + 1, none⟩ = some (.int .i64 p.2.1) ∧ w'.cell? ⟨B, h * 3 + 2, none⟩ = some (.bool p.2.2) ∧ w'.cell? ⟨B, a * 3, none⟩ = some (.int .i64 q.1) ∧ w'.cell? ⟨B, a * 3 + 1, none⟩ = some (.int .i64 q.2.1) ∧ w'.cell? ⟨B, a * 3 + 2, none⟩ = some (.bool q.2.2)) (go_keep) (first | (go_at_call 8; refine (clo8 _ _ _ _ _ _ _).mono ?_; rintro e w' ⟨rfl, rfl⟩))
        go_wp2
        go_roundw
        case rel =>
          refine ⟨i, h, by omega, by omega, by omega, rfl, rfl, ((st.alloc _ _).alloc _ _).drew, ⟨HB.out.1, fun x x1 x2 => ?_⟩⟩
          have := hs.le (show m ≤ h by omega) x1 x2
          rw [HP.out] at this; omega
        case measure => simp [intOf]; omega
    · obtain rfl : i = j := by omega
      obtain ⟨I, rfl⟩ : ∃ I, i = I + 1 := ⟨i - 1, by omega⟩
      go_wp2
      go_loopw [13] (fun p w => ∃ k : Nat, a ≤ k ∧ k ≤ I ∧ p = .int .i64 (k : Int) ∧ St w0 B N (Pl.shl d a k) w) (fun p _ => I - (intOf p).toNat)
      case atStart => exact ⟨a, by omega, by omega, rfl, st.eq (Pl.shl_start d a).symm⟩
      case round =>
        clear st
        obtain ⟨k, k1, k2, rfl, st⟩ := hrel
        by_cases hk : k < I
        · have fr := st.fr
          have a0 := st.c0 k (by omega)
          have a1 := st.c1 k (by omega)
          have a2 := st.c2 k (by omega)
          have b0 := st.c0 (k + 1) (by omega)
          have b1 := st.c1 (k + 1) (by omega)
          have b2 := st.c2 (k + 1) (by omega)
          have S := st.swap k (k + 1) (by omega) (by omega) (by omega)
          rw [Pl.shl_step d a k k1] at S
          generalize Pl.shl d a k k = p at *
          generalize Pl.shl d a k (k + 1) = q at *
          go_wp2
          go_region
          go_wp2
          go_roundw
          case rel => exact ⟨k + 1, by omega, by omega, by go_num, S.drew⟩
          case measure => simp [intOf]; omega
        · obtain rfl : k = I := by omega
          go_wp2
          obtain rfl : m = a + 1 := by omega
          have o := Pl.shl_srt (i := k + 1) hs (by omega) (by omega) HB.out.1 HB.out.2
          have u := Pl.shl_sub d a k b k1 (by omega)
          exact bodyPost_ret (results_none Yba.results15 _ _ _) rfl ⟨rfl, _, st, o, u⟩
end Go.Proofs.Ybulkfvu
