/-
  THE WALKS of seat b0325aD: newNameIndex (with setSize entered in place), LawS0325BRoom, LawS0325BSize.
-/
import Derived.Test.YbulkfsaDoorRows
import Derived.Test.YbulkfsaDoorPlain
import Derived.Test.YbulkfsaDoorShelf
import Derived.WalkKit
import Derived.ProofKit
import Derived.OpenShut
import Derived.WalkLawsBesides
import Derived.Deep.OwnRows
import Derived.Laws.Pointers
import Derived.RowKit3
namespace Go.Proofs.YbulkfsaDoor
open Go.ChangeShapes Go.WideShapes Go.ChangeAt Go.RowKit

theorem len_of (x : Int) (k : Nat) (h4 : 4 ≤ k) (hk : k ≤ 21) (h1 : (pw (k - 1) : Int) ≤ x) (h2 : x < (pw k : Int)) (w : World) :
    Calls Ybad.prog 7 #[.int .u64 x] w fun e w' => e = .returned (.int .i64 (k : Int)) ∧ w' = w := by
  have hle := pw_le k hk
  have h := Ybad.bits_Len x w (by omega) (by omega)
  rw [bitLen_of x.toNat k h4 hk (by omega) (by omega)] at h
  exact h

theorem tz_of (k : Nat) (hk : k ≤ 21) (w : World) (hT : TabAt 1 Lib.deBruijn64tab w) :
    Calls Ybad.prog 8 #[.int .u64 (pw k : Int)] w fun e w' => e = .returned (.int .i64 (k : Int)) ∧ w' = w := by
  have hle := pw_le k hk
  have h := Ybad.bits_TrailingZeros (pw k) (by omega) w (fun _ => hT)
  rw [ctz_pw k (by omega)] at h
  exact h

theorem tab_alloc {w : World} {o : Obj} (h1 : 1 < w.heap.size) (h : TabAt 1 Lib.deBruijn64tab w) : TabAt 1 Lib.deBruijn64tab (w.alloc o) :=
  fun j hj => (World.cell?_alloc_lt (w := w) (o := o) (a := ⟨1, j, none⟩) h1).trans (h j hj)

theorem one_alloc {w : World} {o : Obj} (h1 : 1 < w.heap.size) : 1 < (w.alloc o).heap.size := by
  show 1 < (w.heap.push o).size
  simp; omega
theorem tab3 {w : World} {o1 o2 o3 : Obj} (h1 : 1 < w.heap.size) (h : TabAt 1 Lib.deBruijn64tab w) : TabAt 1 Lib.deBruijn64tab (((w.alloc o1).alloc o2).alloc o3) :=
  tab_alloc (one_alloc (one_alloc h1)) (tab_alloc (one_alloc h1) (tab_alloc h1 h))

theorem made_at (p i : Nat) (h : i < p) : (madeCells #[Value.int .u32 0] p)[i]? = some (.int .u32 0) := by
  simp [madeCells, h, Nat.mod_one]

/-- newNameIndex. -/
theorem new_any (n : Int) (k : Nat) (hk4 : 4 ≤ k) (hk : k ≤ 21) (hn0 : -1048576 ≤ n) (hn1 : n ≤ 1048576) (h1 : (pw (k - 1) : Int) ≤ max (2 * n) 16 - 1) (h2 : max (2 * n) 16 - 1 < (pw k : Int)) (w : World)
    (hs : 1 < w.heap.size) (hT : TabAt 1 Lib.deBruijn64tab w) :
    Calls Ybad.prog 5 #[.int .i64 n] w fun e w' => e = .returned (.agg #[.slice (some ⟨w.heap.size + 1 + 1, 0, none⟩) (pw k) (pw k), .int .u64 (64 - (k : Int)), .int .i64 0, .bool false, .int .u64 0]) ∧
      ∃ c1 c2 C : Array Value, (∀ i, i < pw k → C[i]? = some (.int .u32 0)) ∧ w' = ((w.alloc (.cells c1 28)).alloc (.cells c2 28)).alloc (.cells C 30) := by
  have hpk := pw_wrap k hk
  have hp := pw_le k hk
  have HT : Hid (TabAt 1 Lib.deBruijn64tab w) := hT
  clear hT
  have hmk := fun w => run_make_row' (P := Ybad.prog) 23 30 (.int .u32 0) 4 Ybad.underlying23 (by kernel_rfl) rfl .i64 .i64 (pw k) (by omega) (by omega) w
  go_enter Ybad.func5, Ybad.ntmps5
  go_wp2_with (first
    | (go_at_call 7; refine (len_of _ k hk4 hk h1 h2 _).mono ?_; rintro e w' ⟨rfl, rfl⟩)
    | (go_at_call 8; refine (tz_of k hk _ (tab3 hs HT.out)).mono ?_; rintro e w' ⟨rfl, rfl⟩)
    | go_in)
  go_end0
  go_wp2
  refine bodyPost_ret (v := .agg #[.slice (some ⟨w.heap.size + 1 + 1, 0, none⟩) (pw k) (pw k), .int .u64 (64 - (k : Int)), .int .i64 0, .bool false, .int .u64 0]) (by simp [results, Ybad.results5, go_sem]) rfl ⟨rfl, _, _, _, fun i hi => made_at _ i hi, rfl⟩
end Go.Proofs.YbulkfsaDoor
