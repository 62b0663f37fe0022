/-
  NARROWER THAN 'FOR EVERY INPUT', by the rows' own cells (each row's printed sentence says how): LawS0325AStandIns: ifaces, laid.
  DERIVED. THE GIVEN ROWS OF THIS SEAT. 1 by the template 'for every input the law returns true; each argument reads behind the call as it read before'; 0 by the template 'total and deterministic' (their statements: YbulkfsaFmtTotals.lean).
  GIVEN WITH THE SEED: the statements are not yours to turn. If you find one false, say at which input.
  Laid BY PROGRAM, IN A SANDBOX (cutbox-rows.mjs): the forced cells as the released guide's own fill.sh prints them over the translation 48bd93bc308dd769… (all of the seat's roots in one cut). By AI agents, Wed Nov 11 2026. No macro, syntax, notation, axiom, sorry.
-/
import Derived.Test.YbulkfsaFmtChecked
import GoSem.Claim
import GoSem.ClaimJoined
import GoSem.ClaimMapViews
import Derived.JoinedTies
import Derived.KernelRfl
namespace Go.Proofs.YbulkfsaFmt
/- THE CELL 'sum', in the pinned program and in every row, IS THE sha256 OF THE DUMP (.gsa) THAT YbulkfsaFmtProg.lean LOADS. Nothing in Lean hashes anything: it is a label: what it is worth is what the hold of that sum in a sandbox is worth. -/
noncomputable def Ybaf.pinned : Pinned := { name := "ybulkfsafmt", sum := "48bd93bc308dd769d2f800c7eee8ce337b4e71a83777c7cba1dc4e8a27b8cb7b", checked := Ybaf.checked }
namespace Rows
def none {H : Type} : Left H := { results := [], args := [] }

/- WHAT THE LISTED PACKAGE-LEVEL VARIABLES READ AS WHEN THE CALL BEGINS. Each datum BY PROGRAM (the guide's laid-datum.mjs) off the statement by which the dump's own 'gosem.cut.vars' lays the variable. In a bare row this is a premise. The card (YbulkfsaFmtCards.lean) ties it to the program's text. -/
def laid_example_com_clockwise_clockwise_ErrInvalidParameter {H : Type} : DataW H := .iface "*errors.errorString" (.ptr (.agg [.lit (.string [105, 110, 118, 97, 108, 105, 100, 32, 112, 97, 114, 97, 109, 101, 116, 101, 114])]))

/-- 'clockwise.LawS0325AStandIns': WHATEVER THE INPUT: true; the input reads as it did. -/
def lawS0325AStandInsSpec : ChangeSpec := { name := "lawS0325AStandIns", vars := ["example.com/clockwise/clockwise.ErrInvalidParameter"], fn := fun _ => fun
  | [d1, d2, d3, d4, d5, d6, d7, d8, d9, g1] => { results := [.lit (.bool true)], args := [d1, d2, d3, d4, d5, d6, d7, d8, d9], vars := [g1] }
  | _ => none }
def lawS0325AStandInsRow : OpenClaim := { program := "ybulkfsafmt", sum := "48bd93bc308dd769d2f800c7eee8ce337b4e71a83777c7cba1dc4e8a27b8cb7b", func := "example.com/clockwise/clockwise.LawS0325AStandIns", spec := "lawS0325AStandIns", stops := ["fmt.errorf"], inPlace := ["fmt.errorf", "internal/reflectlite.TypeOf"], unfollowed := true, recurses := true, named := ["example.com/clockwise/clockwise.ErrInvalidParameter"], ifaces := true, apart := false, laid := [("example.com/clockwise/clockwise.ErrInvalidParameter", laid_example_com_clockwise_clockwise_ErrInvalidParameter)] }
/-- NO THEOREM (fmt's text is open here; it may be false): for the released tool's asking of the row's closed facts alone. THE STATEMENT IS 'LawS0325AStandInsToldSaid' (YbulkfsaFmtCards.lean). -/
def LawS0325AStandInsFormAsk : Prop := lawS0325AStandInsRow.holds Ybaf.pinned (OpenSpec.ofChange lawS0325AStandInsSpec)

/-- ITS FALSE NEIGHBOUR: 'it returns false'. Refute it at one input. -/
def lawS0325AStandInsWrong : ChangeSpec := { name := "lawS0325AStandIns", vars := ["example.com/clockwise/clockwise.ErrInvalidParameter"], fn := fun _ => fun
  | [d1, d2, d3, d4, d5, d6, d7, d8, d9, g1] => { results := [.lit (.bool false)], args := [d1, d2, d3, d4, d5, d6, d7, d8, d9], vars := [g1] }
  | _ => none }
def LawS0325AStandInsWrongFormAsk : Prop := lawS0325AStandInsRow.holds Ybaf.pinned (OpenSpec.ofChange lawS0325AStandInsWrong)

end Rows
end Go.Proofs.YbulkfsaFmt
