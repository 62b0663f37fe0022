/-
  slices.insertionSortCmpFunc (14): [a, b) is sorted.
-/
import Derived.Test.YbulkfvuCmp
import Derived.Test.YbulkfvuRot
import Derived.Deep.RegionWith
import Derived.Deep.QuietTactic
import Derived.BigQuiet
import Derived.Deep.RegionHeld3
namespace Go.Proofs.Ybulkfvu
open Go.RowKit
open Pl (M sw Srt Sub Ins)

theorem St.drewN {w0 : World} {B N : Nat} {d : Nat → M} {W : World} (h : St w0 B N d W) (n : Nat) : St w0 B N d (W.drewN n) := by
  induction n with
  | zero => exact h
  | succ n ih => exact ih.drew

set_option maxRecDepth 100000 in
set_option maxHeartbeats 1000000 in
theorem ins_any (w0 : World) (B N a b : Nat) (d : Nat → M) (W : World) (hN : N ≤ 1024) (h1 : a ≤ b) (h2 : b ≤ N) (hst : St w0 B N d W) :
    Calls Yba.prog 14 #[.slice (some ⟨B, 0, none⟩) N N, .int .i64 a, .int .i64 b, .func (.func 8) #[] #[]] W fun e w' => e = .returned (.tuple #[]) ∧ ∃ d', St w0 B N d' w' ∧ Srt d' a b ∧ Sub a b d d' := by
  go_enter Yba.func14, Yba.ntmps14
  go_wp2
  go_loopw [8] (fun p w => ∃ i : Nat, a + 1 ≤ i ∧ i ≤ b + 1 ∧ p = .int .i64 (i : Int) ∧ ∃ d', St w0 B N d' w ∧ Srt d' a i ∧ Sub a b d d') (fun p _ => b + 1 - (intOf p).toNat)
  case atStart => exact ⟨a + 1, by omega, by omega, by go_num, d, hst, Srt.short (by omega), Sub.refl _ _ _⟩
  case round =>
    clear hst
    obtain ⟨i, i1, i2, rfl, d1, st1, so1, sb1⟩ := hrel
    by_cases hlt : i < b
    · go_wp2
      go_loopw [9] (fun q w => ∃ j : Nat, a ≤ j ∧ j ≤ i ∧ q = .int .i64 (j : Int) ∧ ∃ d', St w0 B N d' w ∧ Ins d' a i j ∧ Sub a b d d') (fun q _ => (intOf q).toNat)
      case atStart => exact ⟨i, by omega, by omega, rfl, d1, st1, Pl.ins_start so1, sb1⟩
      case round =>
        clear st1 so1 sb1
        obtain ⟨j, j1, j2, rfl, d2, st, hi, sb⟩ := hrel
        by_cases hj : a < j
        · obtain ⟨J, rfl⟩ : ∃ J, j = J + 1 := ⟨j - 1, by omega⟩
          have lt := st.lt
          have fr := st.fr
          have p0 := st.c0 (J + 1) (by omega)
          have p1 := st.c1 (J + 1) (by omega)
          have p2 := st.c2 (J + 1) (by omega)
          have q0 := st.c0 J (by omega)
          have q1 := st.c1 J (by omega)
          have q2 := st.c2 J (by omega)
          generalize hp : d2 (J + 1) = p at *
          generalize hq : d2 J = q at *
          have HP : Hid (d2 (J + 1) = p) := hp
          have HQ : Hid (d2 J = q) := hq
          clear hp hq
          have i1 : (0 : Int) ≤ (J : Int) := by omega
          have i2 : (J : Int) < (N : Int) := by omega
          have i3 : (0 : Int) ≤ (J : Int) + 1 := by omega
          have i4 : (J : Int) + 1 < (N : Int) := by omega
          have hjI : (a : Int) < (J : Int) + 1 := by omega
          have iw : IntKind.i64.wrap (J : Int) = (J : Int) := by rw [IntKind.wrap_i64]; omega
          by_cases hc : p.1 < q.1
          · have hneg := cmpI_neg hc
            go_wp2
            go_region_held3 (fun w' => w'.cell? ⟨B, (J + 1) * 3, none⟩ = some (.int .i64 p.1) ∧ w'.cell? ⟨B, (J + 1) * 3 + 1, none⟩ = some (.int .i64 p.2.1) ∧ w'.cell? ⟨B, (J + 1) * 3 + 2, none⟩ = some (.bool p.2.2) ∧ w'.cell? ⟨B, J * 3, none⟩ = some (.int .i64 q.1) ∧ w'.cell? ⟨B, J * 3 + 1, none⟩ = some (.int .i64 q.2.1) ∧ w'.cell? ⟨B, J * 3 + 2, none⟩ = some (.bool q.2.2)) (go_keep) (first | (go_at_call 8; refine (clo8 _ _ _ _ _ _ _).mono ?_; rintro e w' ⟨rfl, rfl⟩))
            go_wp2
            go_region
            go_wp2
            go_roundw
            case rel =>
              have S := st.swap (J + 1) J (by omega) (by omega) (by omega)
              rw [HP.out, HQ.out] at S
              have hi' := Pl.ins_step hi hj j2 (by rw [show J + 1 - 1 = J from rfl, HP.out, HQ.out]; exact hc)
              exact ⟨J, by omega, by omega, rfl, _, ((S.alloc _ _).alloc _ _).drew.drew, hi', sb.trans (Pl.sw_sub d2 a b (J + 1) J (by omega) (by omega) (by omega) (by omega))⟩
            case measure => simp [intOf]
          · have hpos := cmpI_pos (Int.not_lt.1 hc)
            go_wp2
            go_region_held3 (fun w' => w'.cell? ⟨B, (J + 1) * 3, none⟩ = some (.int .i64 p.1) ∧ w'.cell? ⟨B, (J + 1) * 3 + 1, none⟩ = some (.int .i64 p.2.1) ∧ w'.cell? ⟨B, (J + 1) * 3 + 2, none⟩ = some (.bool p.2.2) ∧ w'.cell? ⟨B, J * 3, none⟩ = some (.int .i64 q.1) ∧ w'.cell? ⟨B, J * 3 + 1, none⟩ = some (.int .i64 q.2.1) ∧ w'.cell? ⟨B, J * 3 + 2, none⟩ = some (.bool q.2.2)) (go_keep) (first | (go_at_call 8; refine (clo8 _ _ _ _ _ _ _).mono ?_; rintro e w' ⟨rfl, rfl⟩))
            go_wp2
            refine ⟨⟨i + 1, by omega, by omega, by go_num, d2, ((st.alloc _ _).alloc _ _).drew, Pl.ins_done hi j2 (Or.inr ?_), sb⟩, by simp [intOf]; omega⟩
            rw [show J + 1 - 1 = J from rfl, HP.out, HQ.out]; omega
        · obtain rfl : j = a := by omega
          have hd : decide ((j : Int) < (j : Int)) = false := by simp
          go_wp2
          go_quiet (fail)
          go_wp2
          exact ⟨⟨i + 1, by omega, by omega, by go_num, d2, st.drewN nq, Pl.ins_done hi j2 (Or.inl (Nat.le_refl _)), sb⟩, by simp [intOf]; omega⟩
    · go_wp2
      go_end0
      exact ⟨rfl, d1, st1, so1.sub (Nat.le_refl _) (by omega), sb1⟩
end Go.Proofs.Ybulkfvu
