/-
  A proof of 'Rows.LawS0332AAfterAllSaid' (audit.LawS0332AAfterAll): the row, by its walk.
-/
import Derived.Test.YbulkfvuRows
import Derived.Test.YbulkfvuOpen
import Derived.Test.YbulkfvuAfter
import Derived.WalkKit
import Derived.ProofKit
import Derived.OpenShut
import Derived.ChangeOld
import Derived.Below
namespace Go.Proofs.Ybulkfvu.lawS0332AAfterAll
open Go.ChangeShapes Go.WideShapes Go.ChangeAt Go.RowKit

theorem own : ownKnob Yba.prog.godebug = none := by kernel_rfl
theorem laidOut : laidOutB Yba.prog = true := by kernel_rfl

/-- An old place reads as it did. -/
theorem same_of {W W' : World} (h : Grown W W') {p : MemPlace} (hp : p.block < W.heap.size) : W.sameAt W' p := by
  have hb := (World.keptBut_none_iff.1 h.1).2.2
  cases p with
  | cell b o => exact World.cell?_of_block (w := W) (hb b hp)
  | map b => exact hb b hp

set_option maxRecDepth 100000 in
theorem lifted (os : Os) (started : os.Started) (H : Type) (enc : TypeId × Value → H) :
    ReturnsInHanded {} Yba.checked os 4 .any (Rows.lawS0332AAfterAllSpec.pre6 enc Yba.prog Yba.f4 Rows.lawS0332AAfterAllRow.domain false) (Rows.lawS0332AAfterAllSpec.post enc Yba.prog Yba.f4 false true false false) := by
  refine returnsInHanded_of_change (C := Yba.checked) own started (by kernel_rfl) Yba.func4
    (ChangeSpec.witness6 (enc := enc) (C := Yba.checked) false ⟨#[], #[.slice none 0 0, .int .i64 0], []⟩ 8 (by kernel_rfl) (by kernel_rfl) (by kernel_rfl) (by kernel_rfl)) ?_
  intro W base args ds gs before hval0 hW hcnd _
  have hval : ∀ (j : Nat) t v, Yba.f4.params[j]? = some t → args[j]? = some v → Value.okWide Yba.prog W .any base t v := hval0
  have hW' := hW
  obtain ⟨p, q, hA0, hV, rfl, hfz, hnd⟩ := hW
  have hA : DataW.TrodAll enc Yba.prog W 0 (fun _ => true) true Yba.f4.params.toList args.toList ds p := hA0
  rw [Yba.params4] at hA hval
  obtain ⟨v0, vs0, d0, ds0, p0, q0, hargs, rfl, rfl, h0, r0⟩ := trodAll_cons hA
  obtain ⟨v1, vs1, d1, ds1, p1, q1, rfl, rfl, rfl, h1, r1⟩ := trodAll_cons r0
  obtain ⟨rfl, rfl, rfl⟩ := trodAll_nil r1
  obtain rfl : args = #[v0, v1] := by cases args; simp_all
  obtain ⟨rfl, rfl⟩ := trodVars_none hV
  obtain ⟨a0, len, cap, rfl⟩ := okWide_slice Yba.underlying22 (hval 0 22 v0 rfl rfl)
  have k0 := h0
  have lt0 : ∀ x ∈ p0, x.block < W.heap.size := by obtain ⟨m, hm⟩ := k0; exact DataW.trod_lt m _ _ _ hm
  obtain ⟨at_, rfl, rfl, rfl, wat⟩ := open_int Yba.underlying2 (hval 1 2 v1 rfl rfl) h1
  clear hA0 hval0
  have hwalk : Calls Yba.prog 4 #[.slice a0 len cap, .int .i64 at_] W fun e w' => e = .returned (.bool true) ∧ Grown W w' := by
    by_cases hl : 1024 < len
    · exact after_long a0 len cap at_ W hl
    · obtain ⟨fuel, hf⟩ := h0
      exact after_short a0 len cap at_ W (by omega) (build_any (by omega) hf)
  refine hwalk.mono fun e W' ⟨he, hg⟩ => ?_
  subst he
  have hargs' := trodAll_cons_mk (WideElems.Trod_stays (sp' := fun b => decide (b < W.heap.size)) laidOut (by kernel_rfl) (of_decide_eq_true (by kernel_rfl)) k0 (fun x hx => same_of hg (lt0 x hx)) (fun x hx => by simpa using lt0 x hx)) (trodAll_cons_mk (shut_int Yba.underlying2 wat) trodAll_mk0)
  exact ⟨_, rfl, _, _, _, [], _, [], hW', trodAll_mk1 (shut_bool Yba.underlying4 _), hargs', rfl, hg.frame _, fun h => by cases h⟩

/-- THE STATEMENT. -/
theorem proved : Rows.LawS0332AAfterAllSaid :=
  OpenClaim.holds_of_wide 4 Yba.f4 rfl rfl rfl rfl rfl rfl rfl ⟨rfl, rfl, rfl, rfl, rfl⟩ rfl rfl rfl rfl rfl (by kernel_rfl) Yba.func4 (by kernel_rfl)
    (of_decide_eq_true (by kernel_rfl)) (by unfold Func.isWrapper; first | (rw [if_pos (by decide +kernel)]; kernel_rfl) | (rw [if_neg (by decide +kernel)]; exact ⟨rfl, rfl⟩))
    (fun os started H enc _ => lifted os started H enc)
end Go.Proofs.Ybulkfvu.lawS0332AAfterAll
