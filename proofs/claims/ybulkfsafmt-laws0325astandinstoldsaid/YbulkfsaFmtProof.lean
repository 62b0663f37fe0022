/-
  A proof of the told and tied card 'Rows.LawS0325AStandInsToldSaid' (clockwise.LawS0325AStandIns): the row by its walk at F.told, the card by the given tie.
-/
import Derived.Test.YbulkfsaFmtRows
import Derived.Test.YbulkfsaFmtTie
import Derived.Test.YbulkfsaFmtCards
import Derived.Test.YbulkfsaFmtWalk
import Derived.ProofKit
import Derived.OpenShut
import Derived.ShutString
import Derived.LaidMore
import Derived.Stop.JoinedAt
import Derived.Stop.JoinedTold
import Derived.Stop.LaidErr
import Derived.SevenToldRow
import Derived.SevenTiedAt
namespace Go.Proofs.YbulkfsaFmt.lawS0325AStandIns
open Go.ChangeShapes Go.WideShapes Go.ChangeAt Go.RowKit Go.Kit
open Go.ChangeMaps (open_string shut_string)
open Go.Extern.Stop Go.Stop Go.Extern

/-- The row's specification. -/
abbrev spec : OpenSpec := OpenSpec.ofChange Rows.lawS0325AStandInsSpec
/-- The one variable's name. -/
def gname : String := Rows.lawS0325AStandInsSpec.vars.getD 0 ""

theorem own : ownKnob Ybaf.prog.godebug = none := by kernel_rfl
theorem laidOut : laidOutB Ybaf.pinned.checked.prog = true := by kernel_rfl
theorem stopsIs : Ybaf.pinned.checked.prog.stops = ["fmt.errorf"] := by kernel_rfl
theorem knobsIs : Ybaf.pinned.checked.prog.stopKnobs = [] := by kernel_rfl
theorem quiet (os : Os) : Stop.quiet Ybaf.pinned.checked.prog os := by
  intro k hk
  rw [knobsIs] at hk
  cases hk
theorem gN : Ybaf.prog.globalNamed gname = some 0 := by kernel_rfl
theorem gT : (Ybaf.prog.globals[0]?).map (·.type) = some 23 := by kernel_rfl
theorem cells36 : Ybaf.prog.cellsOf 36 = 1 := by kernel_rfl
theorem cells9 : Ybaf.prog.cellsOf 9 = 1 := by kernel_rfl
theorem row34 (u : TypeId) (h : Ybaf.prog.typeName? 3 u = some starES) : u = 34 :=
  typeName_ptr_named (nm := "errors.errorString") (by kernel_rfl) (by kernel_rfl) (by decide) u (h.trans (congrArg some (by decide)))

theorem door_met (os : Os) (args : Array Value) : laidMetH Ybaf.prog Rows.lawS0325AStandInsRow.laid ((World.doorLaid Ybaf.prog 28 os).forCall (fun _ _ => 0) ⟨#[], args, []⟩).memory :=
  laidMetH_of_parts3 (fuel := 8) (laidMet_of_run' 8 (by kernel_rfl) (by kernel_rfl)) (by kernel_rfl) (by kernel_rfl)

/-- What the condition gives: the variable's cell, and the sentinel's text behind it. -/
theorem of_laid {W : World} (h : laidMetH Ybaf.prog Rows.lawS0325AStandInsRow.laid W) : ∃ (a : Addr) (s : ByteArray), W.var? Ybaf.prog gname = some #[.iface 34 (.pointer (some a))] ∧ W.cell? a = some (.string s) := by
  rw [MakeChecks.laidMetH_plain _ _ _ (by kernel_rfl)] at h
  obtain ⟨a, s, h1, h2, _, _⟩ := laid_sentinel (n := gname) (nm := starES) h gN gT Ybaf.underlying23 row34 Ybaf.underlying34 Ybaf.underlying36 rfl rfl Ybaf.underlying9 cells36 cells9
  exact ⟨a, s, h1, h2⟩

theorem var_grown {W W' : World} {cs : Array Value} (h0 : 0 < W.heap.size) (h : Grown W W') (hv : W.var? Ybaf.prog gname = some cs) : W'.var? Ybaf.prog gname = some cs := by
  have hb := (World.keptBut_none_iff.1 h.1).2.2 0 h0
  unfold World.var? at hv ⊢
  simp only [gN, Option.bind_some] at hv ⊢
  rw [hb]
  exact hv

set_option maxRecDepth 100000 in
theorem lifted (os : Os) (started : os.Started) (H : Type) (enc : TypeId × Value → H) :
    ReturnsInTold none {} Ybaf.checked os 3 .any Input.okWide (spec.preRow enc Ybaf.prog Ybaf.f3 Rows.lawS0325AStandInsRow.domain false Rows.lawS0325AStandInsRow.laid) (fun F => (spec.at F).post enc Ybaf.prog Ybaf.f3 false true false false) (aloneAtReturn Ybaf.prog) nothingAlways := by
  refine returnsInTold_of_row (C := Ybaf.checked) (s := spec) (by kernel_rfl) own started (by kernel_rfl) Ybaf.func3
    (OpenSpec.witness_stopped_at (enc := enc) (C := Ybaf.checked) false (World.doorLaid Ybaf.prog 28 os) #[.string ByteArray.empty, .string ByteArray.empty, .int .i64 0, .int .i64 0, .int .i64 0, .bool false, .bool false, .bool false, .bool false] rfl (by kernel_rfl) (by kernel_rfl) (by kernel_rfl)
      (OpenSpec.preRow_of_B rfl 8 (by kernel_rfl) (by kernel_rfl) (door_met os _))) ?_
  intro F W base args ds gs before _ hF hval0 hW _ _ _ hL _
  have hval : ∀ (j : Nat) t v, Ybaf.f3.params[j]? = some t → args[j]? = some v → Value.okWide Ybaf.prog W .any base t v := hval0
  have hW' := hW
  obtain ⟨p, q, hA0, hV0, rfl, hfz, hnd⟩ := hW
  have hA : DataW.TrodAll enc Ybaf.prog W 0 (fun _ => true) true Ybaf.f3.params.toList args.toList ds p := hA0
  have hV : DataW.TrodVars enc Ybaf.prog W (fun _ => true) [gname] gs q := hV0
  rw [Ybaf.params3] at hA hval
  obtain ⟨v0, vs0, d0, ds0, p0, q0, hargs, rfl, rfl, h0, r0⟩ := trodAll_cons hA
  obtain ⟨v1, vs1, d1, ds1, p1, q1, rfl, rfl, rfl, h1, r1⟩ := trodAll_cons r0
  obtain ⟨v2, vs2, d2, ds2, p2, q2, rfl, rfl, rfl, h2, r2⟩ := trodAll_cons r1
  obtain ⟨v3, vs3, d3, ds3, p3, q3, rfl, rfl, rfl, h3, r3⟩ := trodAll_cons r2
  obtain ⟨v4, vs4, d4, ds4, p4, q4, rfl, rfl, rfl, h4, r4⟩ := trodAll_cons r3
  obtain ⟨v5, vs5, d5, ds5, p5, q5, rfl, rfl, rfl, h5, r5⟩ := trodAll_cons r4
  obtain ⟨v6, vs6, d6, ds6, p6, q6, rfl, rfl, rfl, h6, r6⟩ := trodAll_cons r5
  obtain ⟨v7, vs7, d7, ds7, p7, q7, rfl, rfl, rfl, h7, r7⟩ := trodAll_cons r6
  obtain ⟨v8, vs8, d8, ds8, p8, q8, rfl, rfl, rfl, h8, r8⟩ := trodAll_cons r7
  obtain ⟨rfl, rfl, rfl⟩ := trodAll_nil r8
  obtain rfl : args = #[v0, v1, v2, v3, v4, v5, v6, v7, v8] := by cases args; simp_all
  obtain ⟨nm, rfl, rfl, rfl, wn⟩ := open_string Ybaf.underlying9 (hval 0 9 v0 rfl rfl) h0
  obtain ⟨pn, rfl, rfl, rfl, wp⟩ := open_string Ybaf.underlying9 (hval 1 9 v1 rfl rfl) h1
  obtain ⟨mx, rfl, rfl, rfl, w2⟩ := open_int Ybaf.underlying3 (hval 2 3 v2 rfl rfl) h2
  obtain ⟨n, rfl, rfl, rfl, w3⟩ := open_int Ybaf.underlying3 (hval 3 3 v3 rfl rfl) h3
  obtain ⟨pr, rfl, rfl, rfl, w4⟩ := open_int Ybaf.underlying3 (hval 4 3 v4 rfl rfl) h4
  obtain ⟨x5, rfl, rfl, rfl⟩ := open_bool Ybaf.underlying4 (hval 5 4 v5 rfl rfl) h5
  obtain ⟨x6, rfl, rfl, rfl⟩ := open_bool Ybaf.underlying4 (hval 6 4 v6 rfl rfl) h6
  obtain ⟨x7, rfl, rfl, rfl⟩ := open_bool Ybaf.underlying4 (hval 7 4 v7 rfl rfl) h7
  obtain ⟨x8, rfl, rfl, rfl⟩ := open_bool Ybaf.underlying4 (hval 8 4 v8 rfl rfl) h8
  obtain ⟨a, s, hv, hs⟩ := of_laid hL
  obtain ⟨rfl, rfl⟩ := hV.unique (vars_read1 enc gN gT Ybaf.underlying23 hv trivial _)
  clear hA0 hV0 hval0
  have hg : W.cell? ⟨0, 0, none⟩ = some (.iface 34 (.pointer (some a))) := by simpa using World.var?_cell gN hv 0
  have hz : 0 < W.heap.size := World.block_lt_of_cell? _ _ hg
  have ha : a.block < W.heap.size := World.block_lt_of_cell? _ _ hs
  refine (law_walk F.told nm pn mx n pr x5 x6 x7 x8 a s W hF hz ha hg hs).mono fun e W' ⟨he, hgr⟩ => ?_
  subst he
  refine ⟨_, rfl, ?_⟩
  have hv' := var_grown hz hgr hv
  exact post_of_same (s := Rows.lawS0325AStandInsSpec) (pa := []) (pv := [.cell 0 0]) hW' (fun _ _ _ => trodAll_cons_mk (shut_bool Ybaf.underlying4 _) trodAll_mk0)
    (fun sp _ => trodAll_cons_mk (shut_string Ybaf.underlying9 wn) (trodAll_cons_mk (shut_string Ybaf.underlying9 wp) (trodAll_cons_mk (shut_int Ybaf.underlying3 w2) (trodAll_cons_mk (shut_int Ybaf.underlying3 w3) (trodAll_cons_mk (shut_int Ybaf.underlying3 w4)
      (trodAll_cons_mk (shut_bool Ybaf.underlying4 _) (trodAll_cons_mk (shut_bool Ybaf.underlying4 _) (trodAll_cons_mk (shut_bool Ybaf.underlying4 _) (trodAll_cons_mk (shut_bool Ybaf.underlying4 _) trodAll_mk0)))))))))
    (fun sp _ => vars_read1 enc gN gT Ybaf.underlying23 hv' trivial sp) rfl (hgr.frame _) hgr.2.1 (ok_one (by kernel_rfl) rfl (okWide_bool_mk Ybaf.underlying4 _))

/-- THE STATEMENT: the told and tied card. -/
theorem proved : Rows.LawS0325AStandInsToldSaid :=
  Claim7.holds_of_told_tied_any_at .later 3 Ybaf.f3 "fmt.errorf" [] [] _ _ _ _ _ (by kernel_rfl) rfl rfl rfl laidOut (by kernel_rfl) rfl ⟨rfl, rfl, rfl, rfl, rfl, rfl, rfl⟩ rfl rfl (by kernel_rfl) (by kernel_rfl) Ybaf.func3 (by kernel_rfl)
    (of_decide_eq_true (by kernel_rfl)) (of_decide_eq_true (by kernel_rfl)) stopsIs.symm rfl knobsIs.symm (by kernel_rfl)
    (by kernel_rfl) (by kernel_rfl) (by kernel_rfl) (by kernel_rfl) (by kernel_rfl) (by kernel_rfl) (by kernel_rfl) (by kernel_rfl) (by kernel_rfl) rfl (by kernel_rfl) rfl rfl
    rfl rfl
    rfl (by kernel_rfl) (by kernel_rfl) (by kernel_rfl) (by decide) (by kernel_rfl) lawS0325AStandIns_row_tie
    (OpenClaim.moreEntering_of (by kernel_rfl) (by kernel_rfl) (by kernel_rfl) (by kernel_rfl) (by kernel_rfl) (by kernel_rfl) (by kernel_rfl) (by kernel_rfl) (by kernel_rfl) (by kernel_rfl))
    ⟨_, WideRow.started_initial, quiet _⟩
    (fun os started _ H enc _ => lifted os started H enc)
end Go.Proofs.YbulkfsaFmt.lawS0325AStandIns
