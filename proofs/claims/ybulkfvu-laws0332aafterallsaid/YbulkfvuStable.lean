/-
  slices.stableCmpFunc (12): the row is sorted.
-/
import Derived.Test.YbulkfvuSym
import Derived.Test.YbulkfvuBlkPlain
namespace Go.Proofs.Ybulkfvu
open Go.RowKit
open Pl (M Srt Sub Blk)

theorem ins_int (w0 : World) (B N : Nat) (X Y : Int) (a b : Nat) (hX : X = (a : Int)) (hY : Y = (b : Int)) (d : Nat → M) (W : World) (hN : N ≤ 1024) (h1 : a ≤ b) (h2 : b ≤ N) (hst : St w0 B N d W) :
    Calls Yba.prog 14 #[.slice (some ⟨B, 0, none⟩) N N, .int .i64 X, .int .i64 Y, .func (.func 8) #[] #[]] W fun e w' => e = .returned (.tuple #[]) ∧ ∃ d', St w0 B N d' w' ∧ Srt d' a b ∧ Sub a b d d' := by
  subst hX hY
  exact ins_any w0 B N a b d W hN h1 h2 hst
theorem sym_int (w0 : World) (B N : Nat) (X Y Z : Int) (a m b : Nat) (hX : X = (a : Int)) (hY : Y = (m : Int)) (hZ : Z = (b : Int)) (d : Nat → M) (W : World) (hN : N ≤ 1024) (h1 : a < m) (h2 : m < b) (h3 : b ≤ N) (s1 : Srt d a m) (s2 : Srt d m b) (hst : St w0 B N d W) :
    Calls Yba.prog 15 #[.slice (some ⟨B, 0, none⟩) N N, .int .i64 X, .int .i64 Y, .int .i64 Z, .func (.func 8) #[] #[]] W fun e w' => e = .returned (.tuple #[]) ∧ ∃ d', St w0 B N d' w' ∧ Srt d' a b ∧ Sub a b d d' := by
  subst hX hY hZ
  exact sym_any w0 B N hN (b - a) a m b d W (Nat.le_refl _) h1 h2 h3 s1 s2 hst

set_option maxRecDepth 100000 in
set_option maxHeartbeats 2000000 in
theorem stable_any (w0 : World) (B N : Nat) (d : Nat → M) (W : World) (hN : N ≤ 1024) (hst : St w0 B N d W) :
    Calls Yba.prog 12 #[.slice (some ⟨B, 0, none⟩) N N, .int .i64 N, .func (.func 8) #[] #[]] W fun e w' => e = .returned (.tuple #[]) ∧ ∃ d', St w0 B N d' w' ∧ Srt d' 0 N := by
  go_enter Yba.func12, Yba.ntmps12
  go_wp2
  go_loopw [7, 8] (fun x y w => ∃ q : Nat, 20 * q ≤ N ∧ x = .int .i64 ((20 * q : Nat) : Int) ∧ y = .int .i64 ((20 * q + 20 : Nat) : Int) ∧ ∃ d', St w0 B N d' w ∧ Hid (Blk d' 20 (20 * q))) (fun x _ _ => N - (intOf x).toNat)
  case atStart => exact ⟨0, by omega, rfl, rfl, d, hst, Pl.blk_zero d 20⟩
  case round =>
    clear hst
    obtain ⟨q, hq, rfl, rfl, d1, st, HB⟩ := hrel
    obtain ⟨A, hA⟩ : ∃ A, A = 20 * q := ⟨_, rfl⟩
    rw [← hA] at hq HB ⊢
    have HA : Hid (A = 20 * q) := hA
    clear hA
    by_cases hlt : A + 20 ≤ N
    · go_wp2_with fail
      refine (ins_int w0 B N _ _ A (A + 20) rfl (by omega) d1 _ hN (by omega) hlt st).mono ?_
      rintro e w' ⟨rfl, d2, st2, o2, u2⟩
      go_wp2
      go_roundw
      case rel =>
        have hA := HA.out
        refine ⟨q + 1, by omega, val_i64 (by omega), val_i64 (by omega), d2, st2, ?_⟩
        have hb := Pl.blk_more (c := 20) (q := q) (by rw [← hA]; exact HB.out) (by rw [← hA]; exact u2) (by rw [← hA]; exact o2)
        exact hb
      case measure => simp [intOf]; omega
    · have hdf : decide ((A : Int) + 20 ≤ (N : Int)) = false := by rw [decide_eq_false_iff_not]; omega
      go_wp2_with fail
      refine (ins_int w0 B N _ _ A N rfl rfl d1 _ hN (by omega) (Nat.le_refl _) st).mono ?_
      rintro e w' ⟨rfl, d2, st2, o2, u2⟩
      have hB : Blk d2 20 N := by
        have hA := HA.out
        rw [hA] at o2 u2 HB hlt
        exact Pl.blk_last (by omega) HB.out u2 o2
      clear st HB HA o2 u2
      go_wp2
      go_loopw [6] (fun x w => ∃ bs : Nat, 20 ≤ bs ∧ bs ≤ 2048 ∧ x = .int .i64 (bs : Int) ∧ ∃ d', St w0 B N d' w ∧ Hid (Blk d' bs N)) (fun x _ => N - (intOf x).toNat)
      case atStart => exact ⟨20, by omega, by omega, rfl, d2, st2, hB⟩
      case round =>
        clear hB st2
        obtain ⟨bs, g1, g2, rfl, d3, st, HB⟩ := hrel
        by_cases hbs : bs < N
        · obtain ⟨c, hc⟩ : ∃ c, c = 2 * bs := ⟨_, rfl⟩
          have hcI : 2 * (bs : Int) = (c : Int) := by omega
          have hc1 : bs < c := by omega
          have hc2 : c ≤ 2048 := by omega
          have HC : Hid (c = 2 * bs) := hc
          clear hc
          go_wp2
          go_loopw [7, 8] (fun x y w => ∃ q A : Nat, A ≤ N ∧ x = .int .i64 (A : Int) ∧ y = .int .i64 ((A + c : Nat) : Int) ∧ ∃ d', St w0 B N d' w ∧ Hid (A = c * q ∧ Blk d' c (c * q) ∧ Pl.Rest d' A bs N)) (fun x _ _ => N - (intOf x).toNat)
          case atStart => exact ⟨0, 0, by omega, rfl, val_i64 (by omega), d3, st, ⟨by omega, Pl.blk_zero d3 c, Pl.rest_start HB.out 0⟩⟩
          case round =>
            clear st HB
            obtain ⟨q, A, hA, rfl, rfl, d4, st, HR⟩ := hrel
            obtain ⟨hAq, hbl, hre⟩ := HR.out
            have hc := HC.out
            have e1 : A = bs * (2 * q) := by rw [hAq, hc, Nat.mul_comm 2 bs, Nat.mul_assoc]
            have e2 : A + bs = bs * (2 * q + 1) := by rw [Nat.mul_add, Nat.mul_one, ← e1]
            have p1 : ∀ y, y ≤ N → y ≤ A + bs → Srt d4 A y := fun y h1 h2 => Pl.rest_piece hre e1 (Nat.le_refl _) h1 h2
            have p2 : ∀ y, y ≤ N → y ≤ A + c → Srt d4 (A + bs) y := fun y h1 h2 => Pl.rest_piece hre e2 (by omega) h1 (by omega)
            have K1 : Hid (∀ y, y ≤ N → y ≤ A + bs → Srt d4 A y) := p1
            have K2 : Hid (∀ y, y ≤ N → y ≤ A + c → Srt d4 (A + bs) y) := p2
            have K3 : Hid (A = c * q) := hAq
            have K4 : Hid (Blk d4 c (c * q)) := hbl
            have K5 : Hid (Pl.Rest d4 A bs N) := hre
            clear p1 p2 hAq hbl hre e1 e2 HR hc
            by_cases hlt2 : A + c ≤ N
            · go_wp2_with fail
              refine (sym_int w0 B N _ _ _ A (A + bs) (A + c) rfl (by omega) (by omega) d4 _ hN (by omega) (by omega) hlt2 (K1.out _ (by omega) (Nat.le_refl _)) (K2.out _ hlt2 (Nat.le_refl _)) st).mono ?_
              rintro e w' ⟨rfl, d5, st5, o5, u5⟩
              go_wp2
              go_roundw
              case rel =>
                have k3 := K3.out
                refine ⟨q + 1, A + c, by omega, val_i64 (by omega), val_i64 (by omega), d5, st5, ⟨by rw [Nat.mul_add, Nat.mul_one, ← k3], ?_, Pl.rest_more K5.out u5 (by omega)⟩⟩
                rw [Nat.mul_add, Nat.mul_one]
                rw [k3] at u5 o5
                exact Pl.blk_more K4.out u5 o5
              case measure => simp [intOf]; omega
            · have hdf2 : decide ((A : Int) + (c : Int) ≤ (N : Int)) = false := by rw [decide_eq_false_iff_not]; omega
              by_cases hm : A + bs < N
              · go_wp2_with fail
                refine (sym_int w0 B N _ _ _ A (A + bs) N rfl (by omega) rfl d4 _ hN (by omega) hm (Nat.le_refl _) (K1.out _ (by omega) (Nat.le_refl _)) (K2.out _ (Nat.le_refl _) (by omega)) st).mono ?_
                rintro e w' ⟨rfl, d5, st5, o5, u5⟩
                have hB5 : Blk d5 c N := by
                  have k3 := K3.out
                  rw [k3] at u5 o5 hlt2
                  exact Pl.blk_last (by omega) K4.out u5 o5
                go_wp2
                exact ⟨⟨c, by omega, by omega, val_i64 (by omega), d5, st5, hB5⟩, by simp [intOf]; omega⟩
              · have hB5 : Blk d4 c N := by
                  have o5 := K1.out N (Nat.le_refl _) (by omega)
                  have k3 := K3.out
                  rw [k3] at o5 hlt2
                  exact Pl.blk_last (by omega) K4.out (Sub.refl _ _ _) o5
                go_wp2
                exact ⟨⟨c, by omega, by omega, val_i64 (by omega), d4, st, hB5⟩, by simp [intOf]; omega⟩
        · go_wp2
          go_end0
          exact ⟨rfl, d3, st, Pl.blk_whole HB.out (by omega)⟩
end Go.Proofs.Ybulkfvu
