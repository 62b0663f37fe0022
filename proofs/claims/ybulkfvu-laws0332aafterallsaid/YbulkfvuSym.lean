/-
  slices.symMergeCmpFunc (15), whole: by induction on the length.
-/
import Derived.Test.YbulkfvuSym1
import Derived.Test.YbulkfvuSym2
import Derived.Test.YbulkfvuSym3
import Derived.Test.YbulkfvuSym4
namespace Go.Proofs.Ybulkfvu
open Go.RowKit
open Pl (M Srt Sub)

theorem sym_any (w0 : World) (B N : Nat) (hN : N ≤ 1024) : ∀ (n a m b : Nat) (d : Nat → M) (W : World), b - a ≤ n → a < m → m < b → b ≤ N → Srt d a m → Srt d m b → St w0 B N d W → SymSaid w0 B N a m b d W
  | 0, a, m, b, d, W => fun h h1 h2 => by omega
  | n + 1, a, m, b, d, W => fun h h1 h2 h3 s1 s2 st => by
    by_cases c1 : m = a + 1
    · exact sym_one w0 B N a m b d W hN c1 h2 h3 s2 st
    by_cases c2 : b = m + 1
    · exact sym_last w0 B N a m b d W hN c2 (by omega) h3 s1 st
    have IH : Hid (∀ (a' m' b' : Nat) (d' : Nat → M) (W' : World), b' - a' < b - a → a' < m' → m' < b' → b' ≤ N → Srt d' a' m' → Srt d' m' b' → St w0 B N d' W' → SymSaid w0 B N a' m' b' d' W') :=
      fun a' m' b' d' W' hl => sym_any w0 B N hN n a' m' b' d' W' (by omega)
    by_cases c3 : (a + b) / 2 < m
    · exact sym_gt w0 B N a m b ((a + b) / 2) d W hN (by omega) (by omega) h3 (by omega) (by omega) c3 s1 s2 IH st
    · exact sym_le w0 B N a m b ((a + b) / 2) d W hN (by omega) (by omega) h3 (by omega) (by omega) (by omega) s1 s2 IH st
end Go.Proofs.Ybulkfvu
