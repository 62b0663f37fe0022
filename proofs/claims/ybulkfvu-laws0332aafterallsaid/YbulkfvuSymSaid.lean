/-
  WHAT slices.symMergeCmpFunc (15) does, as a statement: [a, b) is sorted.
-/
import Derived.Test.YbulkfvuMem
namespace Go.Proofs.Ybulkfvu
open Go.RowKit
open Pl (M Srt Sub)

def SymSaid (w0 : World) (B N a m b : Nat) (d : Nat → M) (W : World) : Prop :=
  Calls Yba.prog 15 #[.slice (some ⟨B, 0, none⟩) N N, .int .i64 a, .int .i64 m, .int .i64 b, .func (.func 8) #[] #[]] W fun e w' => e = .returned (.tuple #[]) ∧ ∃ d', St w0 B N d' w' ∧ Srt d' a b ∧ Sub a b d d'
end Go.Proofs.Ybulkfvu
