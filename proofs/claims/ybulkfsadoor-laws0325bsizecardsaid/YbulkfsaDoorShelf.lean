/-
  DERIVED: THE SHELF's CONTRACTS AT THIS DUMP, IN PLAIN WORDS (tools/lay-plain.mjs out of 'YbulkfsaDoorShelfSrc.lean', which tools/lay-shelf.mjs wrote): THE SAME DECLARATIONS UNDER THE SAME NAMES: 'import', 'namespace', 'open', 'def', 'theorem' AND NOTHING ELSE: no command of the shelf's: FOR A HAND-IN. Each laying: the table of numbers ('.._ren') and one theorem, a field a fact of the dump's own or the kernel's comparison; each contract: ONE APPLICATION.
-/
import Derived.Shelf.Small.Bits
import Derived.Shelf.Spec.TrailingZeros
import Derived.Test.YbulkfsaDoorProg
namespace Go.Proofs
open Go.Shelf
def Ybad.lays125_ren : Go.Shelf.Ren := ⟨fun | 125 => 7 | 128 => 9 | 129 => 10 | n => n, fun | 46 => 22 | 3 => 3 | 51 => 30 | 53 => 24 | 4 => 4 | 5 => 5 | 9 => 9 | n => n, fun | n => n⟩
theorem Ybad.lays125 : Go.Proofs.Lays.n125 Ybad.prog Ybad.lays125_ren := {
  mixed := by kernel_rfl
  f125 := Ybad.func7.trans (congrArg some (by kernel_rfl))
  f128 := Ybad.func9.trans (congrArg some (by kernel_rfl))
  f129 := Ybad.func10.trans (congrArg some (by kernel_rfl))
  t3 := Ybad.underlying3
  a3 := Ybad.isAgg3
  z3 := Ybad.sizeOf3
  v3 := Ybad.zeroValue3
  t4 := Ybad.underlying4
  a4 := Ybad.isAgg4
  z4 := Ybad.sizeOf4
  v4 := Ybad.zeroValue4
  t5 := Ybad.underlying5
  a5 := Ybad.isAgg5
  z5 := Ybad.sizeOf5
  v5 := Ybad.zeroValue5
  t9 := Ybad.underlying9
  a9 := Ybad.isAgg9
  z9 := Ybad.sizeOf9
  v9 := Ybad.zeroValue9
  t46 := Ybad.underlying22
  a46 := Ybad.isAgg22
  z46 := Ybad.sizeOf22
  v46 := Ybad.zeroValue22
  t51 := Ybad.underlying30
  a51 := Ybad.isAgg30
  z51 := Ybad.sizeOf30
  v51 := Ybad.zeroValue30
  t53 := Ybad.underlying24
  a53 := Ybad.isAgg24
  z53 := Ybad.sizeOf24
  v53 := Ybad.zeroValue24 }
theorem Ybad.bits_Len (x : Int) (w : World) (h0 : 0 ≤ x) (h1 : x ≤ 18446744073709551615) :
    Calls Ybad.prog 7 #[.int .u64 x] w fun e w' => e = .returned (.int .i64 (Lib.bitLen x.toNat)) ∧ w' = w := Any.bits_Len Ybad.lays125 x w h0 h1
def Ybad.lays27_ren : Go.Shelf.Ren := ⟨fun | 27 => 8 | 28 => 11 | 29 => 12 | n => n, fun | 25 => 22 | 3 => 3 | 27 => 30 | 22 => 24 | 4 => 4 | 53 => 37 | 0 => 0 | 5 => 5 | 54 => 38 | n => n, fun | 0 => 0 | 1 => 1 | n => n⟩
theorem Ybad.lays27 : Go.Proofs.Lays7.n27 Ybad.prog Ybad.lays27_ren := {
  mixed := by kernel_rfl
  f27 := Ybad.func8.trans (congrArg some (by kernel_rfl))
  f28 := Ybad.func11.trans (congrArg some (by kernel_rfl))
  f29 := Ybad.func12.trans (congrArg some (by kernel_rfl))
  t0 := Ybad.underlying0
  a0 := Ybad.isAgg0
  z0 := Ybad.sizeOf0
  v0 := Ybad.zeroValue0
  i0 := by kernel_rfl
  t3 := Ybad.underlying3
  a3 := Ybad.isAgg3
  z3 := Ybad.sizeOf3
  v3 := Ybad.zeroValue3
  i3 := by kernel_rfl
  t4 := Ybad.underlying4
  a4 := Ybad.isAgg4
  z4 := Ybad.sizeOf4
  v4 := Ybad.zeroValue4
  i4 := by kernel_rfl
  t5 := Ybad.underlying5
  a5 := Ybad.isAgg5
  z5 := Ybad.sizeOf5
  v5 := Ybad.zeroValue5
  i5 := by kernel_rfl
  t22 := Ybad.underlying24
  a22 := Ybad.isAgg24
  z22 := Ybad.sizeOf24
  v22 := Ybad.zeroValue24
  i22 := by kernel_rfl
  t25 := Ybad.underlying22
  a25 := Ybad.isAgg22
  z25 := Ybad.sizeOf22
  v25 := Ybad.zeroValue22
  i25 := by kernel_rfl
  t27 := Ybad.underlying30
  a27 := Ybad.isAgg30
  z27 := Ybad.sizeOf30
  v27 := Ybad.zeroValue30
  i27 := by kernel_rfl
  t53 := Ybad.underlying37
  a53 := Ybad.isAgg37
  z53 := Ybad.sizeOf37
  v53 := Ybad.zeroValue37
  i53 := by kernel_rfl
  t54 := Ybad.underlying38
  a54 := Ybad.isAgg38
  z54 := Ybad.sizeOf38
  g0 := by kernel_rfl
  g1 := by kernel_rfl }
theorem Ybad.bits_TrailingZeros (x : Nat) (hx : x < 18446744073709551616) (w : World) (hT : x ≠ 0 → TabAt 1 Lib.deBruijn64tab w) :
    Calls Ybad.prog 8 #[.int .u64 x] w fun e w' => e = .returned (.int .i64 (Lib.ctz 64 x)) ∧ w' = w := Any7.bits_TrailingZeros Ybad.lays27 x hx w hT
end Go.Proofs
