/-
  No cell of these rows narrows 'for every input' (looked for: loops, veiled, ifaces, maps, wideKeys, modest, calm, conditions, laid).
  DERIVED. THE GIVEN ROWS OF THIS SEAT. 3 by the template 'for every input the law returns true; each argument reads behind the call as it read before'; 0 by the template 'total and deterministic' (their statements: YbulkfsaTotals.lean).
  GIVEN WITH THE SEED: the statements are not yours to turn. If you find one false, say at which input.
  Laid BY PROGRAM, IN A SANDBOX (cutbox-rows.mjs): the forced cells as the released guide's own fill.sh prints them over the translation 08bddde5d9a7acd3… (all of the seat's roots in one cut). By AI agents, Wed Nov 11 2026. No macro, syntax, notation, axiom, sorry.
-/
import Derived.Test.YbulkfsaChecked
import GoSem.Claim
import GoSem.ClaimJoined
import GoSem.ClaimMapViews
import Derived.JoinedTies
import Derived.KernelRfl
namespace Go.Proofs.Ybulkfsa
/- THE CELL 'sum', in the pinned program and in every row, IS THE sha256 OF THE DUMP (.gsa) THAT YbulkfsaProg.lean LOADS. Nothing in Lean hashes anything: it is a label: what it is worth is what the hold of that sum in a sandbox is worth. -/
noncomputable def Yba.pinned : Pinned := { name := "ybulkfsa", sum := "08bddde5d9a7acd303345b3d34a25e7793d6c6972d385c16dfdf56f37095ccc8", checked := Yba.checked }
namespace Rows
def none {H : Type} : Left H := { results := [], args := [] }

/-- 'clockwise.LawS0325CRoundTrip': WHATEVER THE INPUT: true; the input reads as it did. -/
def lawS0325CRoundTripSpec : ChangeSpec := { name := "lawS0325CRoundTrip", fn := fun _ => fun
  | [d] => { results := [.lit (.bool true)], args := [d] }
  | _ => none }
def lawS0325CRoundTripRow : OpenClaim := { program := "ybulkfsa", sum := "08bddde5d9a7acd303345b3d34a25e7793d6c6972d385c16dfdf56f37095ccc8", func := "example.com/clockwise/clockwise.LawS0325CRoundTrip", spec := "lawS0325CRoundTrip", apart := false }
def LawS0325CRoundTripSaid : Prop := lawS0325CRoundTripRow.holds Yba.pinned (OpenSpec.ofChange lawS0325CRoundTripSpec)

/-- ITS FALSE NEIGHBOUR: 'it returns false'. Refute it at one input. -/
def lawS0325CRoundTripWrong : ChangeSpec := { name := "lawS0325CRoundTrip", fn := fun _ => fun
  | [d] => { results := [.lit (.bool false)], args := [d] }
  | _ => none }
def LawS0325CRoundTripWrongFalsely : Prop := lawS0325CRoundTripRow.holds Yba.pinned (OpenSpec.ofChange lawS0325CRoundTripWrong)

/-- 'clockwise.LawS0325CInjective': WHATEVER THE INPUT: true; the input reads as it did. -/
def lawS0325CInjectiveSpec : ChangeSpec := { name := "lawS0325CInjective", fn := fun _ => fun
  | [d1, d2] => { results := [.lit (.bool true)], args := [d1, d2] }
  | _ => none }
def lawS0325CInjectiveRow : OpenClaim := { program := "ybulkfsa", sum := "08bddde5d9a7acd303345b3d34a25e7793d6c6972d385c16dfdf56f37095ccc8", func := "example.com/clockwise/clockwise.LawS0325CInjective", spec := "lawS0325CInjective", apart := false }
def LawS0325CInjectiveSaid : Prop := lawS0325CInjectiveRow.holds Yba.pinned (OpenSpec.ofChange lawS0325CInjectiveSpec)

/-- ITS FALSE NEIGHBOUR: 'it returns false'. Refute it at one input. -/
def lawS0325CInjectiveWrong : ChangeSpec := { name := "lawS0325CInjective", fn := fun _ => fun
  | [d1, d2] => { results := [.lit (.bool false)], args := [d1, d2] }
  | _ => none }
def LawS0325CInjectiveWrongFalsely : Prop := lawS0325CInjectiveRow.holds Yba.pinned (OpenSpec.ofChange lawS0325CInjectiveWrong)

/-- 'clockwise.LawS0325CVectors': WHATEVER THE INPUT: true; the input reads as it did. -/
def lawS0325CVectorsSpec : ChangeSpec := { name := "lawS0325CVectors", fn := fun _ => fun
  | [d] => { results := [.lit (.bool true)], args := [d] }
  | _ => none }
def lawS0325CVectorsRow : OpenClaim := { program := "ybulkfsa", sum := "08bddde5d9a7acd303345b3d34a25e7793d6c6972d385c16dfdf56f37095ccc8", func := "example.com/clockwise/clockwise.LawS0325CVectors", spec := "lawS0325CVectors", apart := false }
def LawS0325CVectorsSaid : Prop := lawS0325CVectorsRow.holds Yba.pinned (OpenSpec.ofChange lawS0325CVectorsSpec)

/-- ITS FALSE NEIGHBOUR: 'it returns false'. Refute it at one input. -/
def lawS0325CVectorsWrong : ChangeSpec := { name := "lawS0325CVectors", fn := fun _ => fun
  | [d] => { results := [.lit (.bool false)], args := [d] }
  | _ => none }
def LawS0325CVectorsWrongFalsely : Prop := lawS0325CVectorsRow.holds Yba.pinned (OpenSpec.ofChange lawS0325CVectorsWrong)

end Rows
end Go.Proofs.Ybulkfsa
