/-
  No cell of these rows narrows 'for every input' (looked for: loops, veiled, ifaces, maps, wideKeys, modest, calm, conditions, laid).
  DERIVED. THE GIVEN ROWS OF THIS SEAT. 2 by the template 'for every input the law returns true; each argument reads behind the call as it read before'; 0 by the template 'total and deterministic' (their statements: YbulkfvuTotals.lean).
  GIVEN WITH THE SEED: the statements are not yours to turn. If you find one false, say at which input.
  Laid BY PROGRAM, IN A SANDBOX (cutbox-rows.mjs): the forced cells as the released guide's own fill.sh prints them over the translation 138d454092dea67d… (all of the seat's roots in one cut). By AI agents, Wed Nov 11 2026. No macro, syntax, notation, axiom, sorry.
-/
import Derived.Test.YbulkfvuChecked
import GoSem.Claim
import GoSem.ClaimJoined
import GoSem.ClaimMapViews
import Derived.JoinedTies
import Derived.KernelRfl
namespace Go.Proofs.Ybulkfvu
/- THE CELL 'sum', in the pinned program and in every row, IS THE sha256 OF THE DUMP (.gsa) THAT YbulkfvuProg.lean LOADS. Nothing in Lean hashes anything: it is a label: what it is worth is what the hold of that sum in a sandbox is worth. -/
noncomputable def Yba.pinned : Pinned := { name := "ybulkfvu", sum := "138d454092dea67d23320a2fe536bda16ae86f9d6bcb06ead521029adac4614d", checked := Yba.checked }
namespace Rows
def none {H : Type} : Left H := { results := [], args := [] }

/-- 'audit.LawS0332AExact': WHATEVER THE INPUT: true; the input reads as it did. -/
def lawS0332AExactSpec : ChangeSpec := { name := "lawS0332AExact", fn := fun _ => fun
  | [d1, d2] => { results := [.lit (.bool true)], args := [d1, d2] }
  | _ => none }
def lawS0332AExactRow : OpenClaim := { program := "ybulkfvu", sum := "138d454092dea67d23320a2fe536bda16ae86f9d6bcb06ead521029adac4614d", func := "example.com/orrery/orrery/pkg/audit.LawS0332AExact", spec := "lawS0332AExact", unfollowed := true, recurses := true, apart := false }
def LawS0332AExactSaid : Prop := lawS0332AExactRow.holds Yba.pinned (OpenSpec.ofChange lawS0332AExactSpec)

/-- ITS FALSE NEIGHBOUR: 'it returns false'. Refute it at one input. -/
def lawS0332AExactWrong : ChangeSpec := { name := "lawS0332AExact", fn := fun _ => fun
  | [d1, d2] => { results := [.lit (.bool false)], args := [d1, d2] }
  | _ => none }
def LawS0332AExactWrongFalsely : Prop := lawS0332AExactRow.holds Yba.pinned (OpenSpec.ofChange lawS0332AExactWrong)

/-- 'audit.LawS0332AAfterAll': WHATEVER THE INPUT: true; the input reads as it did. -/
def lawS0332AAfterAllSpec : ChangeSpec := { name := "lawS0332AAfterAll", fn := fun _ => fun
  | [d1, d2] => { results := [.lit (.bool true)], args := [d1, d2] }
  | _ => none }
def lawS0332AAfterAllRow : OpenClaim := { program := "ybulkfvu", sum := "138d454092dea67d23320a2fe536bda16ae86f9d6bcb06ead521029adac4614d", func := "example.com/orrery/orrery/pkg/audit.LawS0332AAfterAll", spec := "lawS0332AAfterAll", unfollowed := true, recurses := true, apart := false }
def LawS0332AAfterAllSaid : Prop := lawS0332AAfterAllRow.holds Yba.pinned (OpenSpec.ofChange lawS0332AAfterAllSpec)

/-- ITS FALSE NEIGHBOUR: 'it returns false'. Refute it at one input. -/
def lawS0332AAfterAllWrong : ChangeSpec := { name := "lawS0332AAfterAll", fn := fun _ => fun
  | [d1, d2] => { results := [.lit (.bool false)], args := [d1, d2] }
  | _ => none }
def LawS0332AAfterAllWrongFalsely : Prop := lawS0332AAfterAllRow.holds Yba.pinned (OpenSpec.ofChange lawS0332AAfterAllWrong)

end Rows
end Go.Proofs.Ybulkfvu
