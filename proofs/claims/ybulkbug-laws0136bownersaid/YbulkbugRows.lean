/-
  No cell of these rows narrows 'for every input' (looked for: loops, veiled, ifaces, maps, wideKeys, modest, calm, conditions, laid).
  DERIVED. THE GIVEN ROWS OF THIS SEAT. 1 by the template 'for every input the law returns true; each argument reads behind the call as it read before'; 0 by the template 'total and deterministic' (their statements: YbulkbugTotals.lean).
  GIVEN WITH THE SEED: the statements are not yours to turn. If you find one false, say at which input.
  Laid BY PROGRAM, IN A SANDBOX (cutbox-rows.mjs): the forced cells as the released guide's own fill.sh prints them over the translation a2f210b5f77cdc9d… (all of the seat's roots in one cut). By AI agents, Wed Nov 11 2026. No macro, syntax, notation, axiom, sorry.
-/
import Derived.Test.YbulkbugChecked
import GoSem.Claim
import GoSem.ClaimJoined
import GoSem.ClaimMapViews
import Derived.JoinedTies
import Derived.KernelRfl
namespace Go.Proofs.Ybulkbug
/- THE CELL 'sum', in the pinned program and in every row, IS THE sha256 OF THE DUMP (.gsa) THAT YbulkbugProg.lean LOADS. Nothing in Lean hashes anything: it is a label: what it is worth is what the hold of that sum in a sandbox is worth. -/
noncomputable def Yba.pinned : Pinned := { name := "ybulkbug", sum := "a2f210b5f77cdc9d6a2382b013f265c5c68a865ea2115970ad26306d1abc1a32", checked := Yba.checked }
namespace Rows
def none {H : Type} : Left H := { results := [], args := [] }

/-- 'join.LawS0136BOwner': WHATEVER THE INPUT: true; the input reads as it did. -/
def lawS0136BOwnerSpec : ChangeSpec := { name := "lawS0136BOwner", fn := fun _ => fun
  | [d1, d2, d3] => { results := [.lit (.bool true)], args := [d1, d2, d3] }
  | _ => none }
def lawS0136BOwnerRow : OpenClaim := { program := "ybulkbug", sum := "a2f210b5f77cdc9d6a2382b013f265c5c68a865ea2115970ad26306d1abc1a32", func := "example.com/planwright/planwright/join.LawS0136BOwner", spec := "lawS0136BOwner", unfollowed := true, recurses := true, apart := false }
def LawS0136BOwnerSaid : Prop := lawS0136BOwnerRow.holds Yba.pinned (OpenSpec.ofChange lawS0136BOwnerSpec)

/-- ITS FALSE NEIGHBOUR: 'it returns false'. Refute it at one input. -/
def lawS0136BOwnerWrong : ChangeSpec := { name := "lawS0136BOwner", fn := fun _ => fun
  | [d1, d2, d3] => { results := [.lit (.bool false)], args := [d1, d2, d3] }
  | _ => none }
def LawS0136BOwnerWrongFalsely : Prop := lawS0136BOwnerRow.holds Yba.pinned (OpenSpec.ofChange lawS0136BOwnerWrong)

end Rows
end Go.Proofs.Ybulkbug
