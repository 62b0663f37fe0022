/-
  slices.symMergeCmpFunc (15), the general way: the symmetric split, the rotation, the two calls of itself.
-/
import Derived.Test.YbulkfvuIns
import Derived.Test.YbulkfvuSymSaid
namespace Go.Proofs.Ybulkfvu
open Go.RowKit
open Pl (M sw Srt Sub rot)

set_option maxRecDepth 100000 in
set_option maxHeartbeats 4000000 in
theorem sym_le (w0 : World) (B N a m b mid : Nat) (d : Nat → M) (W : World) (hN : N ≤ 1024) (h1 : a + 1 < m) (h2 : m + 1 < b) (h3 : b ≤ N) (g0 : a + b ≤ mid + mid + 1) (g1 : mid + mid ≤ a + b) (hm : m ≤ mid) (hs1 : Srt d a m) (hs2 : Srt d m b)
    (IH : Hid (∀ (a' m' b' : Nat) (d' : Nat → M) (W' : World), b' - a' < b - a → a' < m' → m' < b' → b' ≤ N → Srt d' a' m' → Srt d' m' b' → St w0 B N d' W' → SymSaid w0 B N a' m' b' d' W')) (hst : St w0 B N d W) : SymSaid w0 B N a m b d W := by
  unfold SymSaid at IH ⊢
  have e1 : ((m : Int) - (a : Int) == 1) = false := by rw [beq_eq_false_iff_ne]; omega
  have e2 : ((b : Int) - (m : Int) == 1) = false := by rw [beq_eq_false_iff_ne]; omega
  have hmid : ((a : Int) + (b : Int)) / 2 = (mid : Int) := by omega
  have hmb : decide (mid < m) = false := by rw [decide_eq_false_iff_not]; omega
  go_enter Yba.func15, Yba.ntmps15
  go_wp2
  go_loopw [20, 21] (fun x y w => ∃ s r : Nat, a ≤ s ∧ s ≤ r ∧ r ≤ m ∧ x = .int .i64 (s : Int) ∧ y = .int .i64 (r : Int) ∧ St w0 B N d w ∧ Hid ((∀ c, a ≤ c → c < s → (d c).1 ≤ (d (mid + m - 1 - c)).1) ∧ (∀ c, r ≤ c → c < m → (d (mid + m - 1 - c)).1 < (d c).1))) (fun x y _ => (intOf y).toNat - (intOf x).toNat)
  case atStart => exact ⟨a, m, by omega, by omega, by omega, rfl, rfl, hst, ⟨fun h h1 h2 => by omega, fun h h1 h2 => by omega⟩⟩
  case round =>
    clear hst
    obtain ⟨s, r, i1, i2, i3, rfl, rfl, st, HB⟩ := hrel
    by_cases hlt : s < r
    · obtain ⟨c, hc⟩ : ∃ c, c = (s + r) / 2 := ⟨_, rfl⟩
      have c1 : s ≤ c := by omega
      have c2 : c < r := by omega
      have hcI : ((s : Int) + (r : Int)) / 2 = (c : Int) := by omega
      obtain ⟨e, he⟩ : ∃ e, e = mid + m - 1 - c := ⟨_, rfl⟩
      have heI : (mid : Int) + (m : Int) - 1 - (c : Int) = (e : Int) := by omega
      have em : m ≤ e := by omega
      have eb : e < b := by omega
      have ec : e + c + 1 = mid + m := by omega
      have HC : Hid (c = (s + r) / 2) := hc
      have HE : Hid (e = mid + m - 1 - c) := he
      clear hc he
      have p0 := st.c0 e (by omega)
      have p1 := st.c1 e (by omega)
      have p2 := st.c2 e (by omega)
      have q0 := st.c0 c (by omega)
      have q1 := st.c1 c (by omega)
      have q2 := st.c2 c (by omega)
      have k1 : (0 : Int) ≤ (c : Int) := by omega
      have k2 : (c : Int) < (N : Int) := by omega
      have k3 : (0 : Int) ≤ (e : Int) := by omega
      have k4 : (e : Int) < (N : Int) := by omega
      have kw : IntKind.i64.wrap (e : Int) = (e : Int) := by rw [IntKind.wrap_i64]; omega
      obtain ⟨p, hp⟩ : ∃ p, d e = p := ⟨_, rfl⟩
      obtain ⟨q, hq⟩ : ∃ q, d c = q := ⟨_, rfl⟩
      rw [hp] at p0 p1 p2
      rw [hq] at q0 q1 q2
      have HP : Hid (d e = p) := hp
      have HQ : Hid (d c = q) := hq
      clear hp hq
      by_cases hc : p.1 < q.1
      · have hneg := cmpI_neg hc
        go_wp2
        go_region_held3 (fun w' => w'.cell? ⟨B, e * 3, none⟩ = some (.int .i64 p.1) ∧ w'.cell? ⟨B, e * 3 + 1, none⟩ = some (.int .i64 p.2.1) ∧ w'.cell? ⟨B, e * 3 + 2, none⟩ = some (.bool p.2.2) ∧ w'.cell? ⟨B, c * 3, none⟩ = some (.int .i64 q.1) ∧ w'.cell? ⟨B, c * 3 + 1, none⟩ = some (.int .i64 q.2.1) ∧ w'.cell? ⟨B, c * 3 + 2, none⟩ = some (.bool q.2.2)) (go_keep) (first | (go_at_call 8; refine (clo8 _ _ _ _ _ _ _).mono ?_; rintro e w' ⟨rfl, rfl⟩))
        go_wp2
        go_roundw
        case rel =>
          refine ⟨s, c, by omega, by omega, by omega, rfl, rfl, ((st.alloc _ _).alloc _ _).drew, ⟨HB.out.1, fun x x1 x2 => ?_⟩⟩
          have t1 := hs1.le (show a ≤ c by omega) x1 (show x < m by omega)
          have t2 := hs2.le (show m ≤ mid + m - 1 - x by omega) (show mid + m - 1 - x ≤ e by omega) eb
          rw [HQ.out] at t1; rw [HP.out] at t2; omega
        case measure => simp [intOf]; omega
      · have hpos := cmpI_pos (Int.not_lt.1 hc)
        have hbf : decide (cmpI p.1 q.1 < 0) = false := by rw [decide_eq_false_iff_not]; omega
        go_wp2
        go_region_held3 (fun w' => w'.cell? ⟨B, e * 3, none⟩ = some (.int .i64 p.1) ∧ w'.cell? ⟨B, e * 3 + 1, none⟩ = some (.int .i64 p.2.1) ∧ w'.cell? ⟨B, e * 3 + 2, none⟩ = some (.bool p.2.2) ∧ w'.cell? ⟨B, c * 3, none⟩ = some (.int .i64 q.1) ∧ w'.cell? ⟨B, c * 3 + 1, none⟩ = some (.int .i64 q.2.1) ∧ w'.cell? ⟨B, c * 3 + 2, none⟩ = some (.bool q.2.2)) (go_keep) (first | (go_at_call 8; refine (clo8 _ _ _ _ _ _ _).mono ?_; rintro e w' ⟨rfl, rfl⟩))
        go_wp2
        go_roundw
        case rel =>
          refine ⟨c + 1, r, by omega, by omega, by omega, by go_num, rfl, ((st.alloc _ _).alloc _ _).drew, ⟨fun x x1 x2 => ?_, HB.out.2⟩⟩
          have t1 := hs1.le (show a ≤ x by omega) (show x ≤ c by omega) (show c < m by omega)
          have t2 := hs2.le em (show e ≤ mid + m - 1 - x by omega) (show mid + m - 1 - x < b by omega)
          rw [HQ.out] at t1; rw [HP.out] at t2; omega
        case measure => simp [intOf]; omega
    · obtain rfl : s = r := by omega
      have SP : Pl.Split d a m b mid a m s := ⟨by omega, by omega, by omega, Or.inr ⟨hm, rfl, rfl⟩, i1, i3, HB.out.1, HB.out.2⟩
      have bnd := SP.bounds
      have PP := SP.parts hs1 hs2
      obtain ⟨E, hE⟩ : ∃ E, E = mid + m - s := ⟨_, rfl⟩
      rw [← hE] at PP bnd
      simp only at PP
      obtain ⟨P1, P2, P3, P4, P5⟩ := PP
      obtain ⟨b1, b2, b3, b4, b5, b6, b7, b8⟩ := bnd
      have SR := Pl.rot_sub d s m E b2 b4
      have hEI : (mid : Int) + (m : Int) - (s : Int) = (E : Int) := by omega
      have XX : Hid (E = mid + m - s) := hE
      clear hE SP HB
      by_cases cA : s < m <;> by_cases cB : s < mid <;> by_cases cC : a < s <;> by_cases cD : E < b
      · clear XX
        go_wp2_with fail
        refine (rot_any w0 B N s m E d _ _ hN (by omega) (by omega) (by omega) st).mono ?_
        rintro e1 w1 ⟨rfl, st⟩
        go_wp2_with fail
        refine (IH.out a s mid _ _ (by omega) (by omega) (by omega) (by omega) P1 P2 st).mono ?_
        rintro e2 w2 ⟨rfl, d1, st, o1, u1⟩
        go_wp2_with fail
        refine (IH.out mid E b _ _ (by omega) (by omega) (by omega) (by omega) (P3.keep u1 (Or.inr (Nat.le_refl _))) (P4.keep u1 (Or.inr (by omega))) st).mono ?_
        rintro e3 w3 ⟨rfl, d2, st, o2, u2⟩
        go_wp2_with fail
        go_end0
        exact ⟨rfl, d2, st, Pl.join_halves (by omega) (by omega) P5 u1 o1 u2 o2, ((SR.wider (by omega) (by omega)).trans (u1.wider (Nat.le_refl _) (by omega))).trans (u2.wider (by omega) (Nat.le_refl _))⟩
      · exfalso; clear XX; omega
      · clear XX
        go_wp2_with fail
        refine (rot_any w0 B N s m E d _ _ hN (by omega) (by omega) (by omega) st).mono ?_
        rintro e1 w1 ⟨rfl, st⟩
        go_wp2_with fail
        obtain ⟨d1, st, o1, u1⟩ : ∃ d1, St w0 B N d1 _ ∧ Srt d1 a mid ∧ Sub a mid (rot d s m E) d1 := ⟨_, st, P2.sub (by omega) (Nat.le_refl _), Sub.refl _ _ _⟩
        refine (IH.out mid E b _ _ (by omega) (by omega) (by omega) (by omega) (P3.keep u1 (Or.inr (Nat.le_refl _))) (P4.keep u1 (Or.inr (by omega))) st).mono ?_
        rintro e3 w3 ⟨rfl, d2, st, o2, u2⟩
        go_wp2_with fail
        go_end0
        exact ⟨rfl, d2, st, Pl.join_halves (by omega) (by omega) P5 u1 o1 u2 o2, ((SR.wider (by omega) (by omega)).trans (u1.wider (Nat.le_refl _) (by omega))).trans (u2.wider (by omega) (Nat.le_refl _))⟩
      · clear XX
        go_wp2_with fail
        refine (rot_any w0 B N s m E d _ _ hN (by omega) (by omega) (by omega) st).mono ?_
        rintro e1 w1 ⟨rfl, st⟩
        go_wp2_with fail
        obtain ⟨d1, st, o1, u1⟩ : ∃ d1, St w0 B N d1 _ ∧ Srt d1 a mid ∧ Sub a mid (rot d s m E) d1 := ⟨_, st, P2.sub (by omega) (Nat.le_refl _), Sub.refl _ _ _⟩
        obtain ⟨d2, st, o2, u2⟩ : ∃ d2, St w0 B N d2 _ ∧ Srt d2 mid b ∧ Sub mid b d1 d2 := ⟨_, st, (P3.keep u1 (Or.inr (Nat.le_refl _))).sub (Nat.le_refl _) (by omega), Sub.refl _ _ _⟩
        go_end0
        exact ⟨rfl, d2, st, Pl.join_halves (by omega) (by omega) P5 u1 o1 u2 o2, ((SR.wider (by omega) (by omega)).trans (u1.wider (Nat.le_refl _) (by omega))).trans (u2.wider (by omega) (Nat.le_refl _))⟩
      · exfalso; clear XX; omega
      · exfalso; clear XX; omega
      · exfalso; clear XX; omega
      · exfalso; clear XX; omega
      · clear XX
        go_wp2_with fail
        replace st := st.eq (Pl.rot_none d s m E (by omega) (by omega) (by omega)).symm
        refine (IH.out a s mid _ _ (by omega) (by omega) (by omega) (by omega) P1 P2 st).mono ?_
        rintro e2 w2 ⟨rfl, d1, st, o1, u1⟩
        go_wp2_with fail
        obtain ⟨d2, st, o2, u2⟩ : ∃ d2, St w0 B N d2 _ ∧ Srt d2 mid b ∧ Sub mid b d1 d2 := ⟨_, st, (P4.keep u1 (Or.inr (by omega))).sub (by omega) (Nat.le_refl _), Sub.refl _ _ _⟩
        go_end0
        exact ⟨rfl, d2, st, Pl.join_halves (by omega) (by omega) P5 u1 o1 u2 o2, ((SR.wider (by omega) (by omega)).trans (u1.wider (Nat.le_refl _) (by omega))).trans (u2.wider (by omega) (Nat.le_refl _))⟩
      · exfalso; clear XX; omega
      · exfalso; clear XX; omega
      · exfalso; clear XX; omega
      · clear XX
        go_wp2_with fail
        replace st := st.eq (Pl.rot_none d s m E (by omega) (by omega) (by omega)).symm
        obtain ⟨d1, st, o1, u1⟩ : ∃ d1, St w0 B N d1 _ ∧ Srt d1 a mid ∧ Sub a mid (rot d s m E) d1 := ⟨_, st, P1.sub (Nat.le_refl _) (by omega), Sub.refl _ _ _⟩
        obtain ⟨d2, st, o2, u2⟩ : ∃ d2, St w0 B N d2 _ ∧ Srt d2 mid b ∧ Sub mid b d1 d2 := ⟨_, st, (P4.keep u1 (Or.inr (by omega))).sub (by omega) (Nat.le_refl _), Sub.refl _ _ _⟩
        go_end0
        exact ⟨rfl, d2, st, Pl.join_halves (by omega) (by omega) P5 u1 o1 u2 o2, ((SR.wider (by omega) (by omega)).trans (u1.wider (Nat.le_refl _) (by omega))).trans (u2.wider (by omega) (Nat.le_refl _))⟩
      · exfalso; clear XX; omega
      · exfalso; clear XX; omega
      · exfalso; clear XX; omega

end Go.Proofs.Ybulkfvu
