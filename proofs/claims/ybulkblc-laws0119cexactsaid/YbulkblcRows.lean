/-
  No cell of these rows narrows 'for every input' (looked for: loops, veiled, ifaces, maps, wideKeys, modest, calm, conditions, laid).
  DERIVED. THE GIVEN ROWS OF THIS SEAT. 2 by the template 'for every input the law returns true; each argument reads behind the call as it read before'; 0 by the template 'total and deterministic' (their statements: YbulkblcTotals.lean).
  GIVEN WITH THE SEED: the statements are not yours to turn. If you find one false, say at which input.
  Laid BY PROGRAM, IN A SANDBOX (cutbox-rows.mjs): the forced cells as the released guide's own fill.sh prints them over the translation 77cf1661e27e3bc4… (all of the seat's roots in one cut). By AI agents, Wed Nov 11 2026. No macro, syntax, notation, axiom, sorry.
-/
import Derived.Test.YbulkblcChecked
import GoSem.Claim
import GoSem.ClaimJoined
import GoSem.ClaimMapViews
import Derived.JoinedTies
import Derived.KernelRfl
namespace Go.Proofs.Ybulkblc
/- THE CELL 'sum', in the pinned program and in every row, IS THE sha256 OF THE DUMP (.gsa) THAT YbulkblcProg.lean LOADS. Nothing in Lean hashes anything: it is a label: what it is worth is what the hold of that sum in a sandbox is worth. -/
noncomputable def Yba.pinned : Pinned := { name := "ybulkblc", sum := "77cf1661e27e3bc40e3f2c932cf0ecfd3fc356a15c4a8bbcaca96b45f306fcba", checked := Yba.checked }
namespace Rows
def none {H : Type} : Left H := { results := [], args := [] }

/-- 'correction.LawS0119CExact': WHATEVER THE INPUT: true; the input reads as it did. -/
def lawS0119CExactSpec : ChangeSpec := { name := "lawS0119CExact", fn := fun _ => fun
  | [d1, d2, d3, d4] => { results := [.lit (.bool true)], args := [d1, d2, d3, d4] }
  | _ => none }
def lawS0119CExactRow : OpenClaim := { program := "ybulkblc", sum := "77cf1661e27e3bc40e3f2c932cf0ecfd3fc356a15c4a8bbcaca96b45f306fcba", func := "example.com/kronerate/kronerate/correction.LawS0119CExact", spec := "lawS0119CExact", inPlace := ["math/big.addVV", "math/bits.Add64", "math/big.subVV", "math/bits.Sub64"], recurses := true, apart := false }
def LawS0119CExactSaid : Prop := lawS0119CExactRow.holds Yba.pinned (OpenSpec.ofChange lawS0119CExactSpec)

/-- ITS FALSE NEIGHBOUR: 'it returns false'. Refute it at one input. -/
def lawS0119CExactWrong : ChangeSpec := { name := "lawS0119CExact", fn := fun _ => fun
  | [d1, d2, d3, d4] => { results := [.lit (.bool false)], args := [d1, d2, d3, d4] }
  | _ => none }
def LawS0119CExactWrongFalsely : Prop := lawS0119CExactRow.holds Yba.pinned (OpenSpec.ofChange lawS0119CExactWrong)

/-- 'correction.LawS0119CSymmetric': WHATEVER THE INPUT: true; the input reads as it did. -/
def lawS0119CSymmetricSpec : ChangeSpec := { name := "lawS0119CSymmetric", fn := fun _ => fun
  | [d1, d2, d3] => { results := [.lit (.bool true)], args := [d1, d2, d3] }
  | _ => none }
def lawS0119CSymmetricRow : OpenClaim := { program := "ybulkblc", sum := "77cf1661e27e3bc40e3f2c932cf0ecfd3fc356a15c4a8bbcaca96b45f306fcba", func := "example.com/kronerate/kronerate/correction.LawS0119CSymmetric", spec := "lawS0119CSymmetric", inPlace := ["math/big.addVV", "math/bits.Add64", "math/big.subVV", "math/bits.Sub64"], recurses := true, apart := false }
def LawS0119CSymmetricSaid : Prop := lawS0119CSymmetricRow.holds Yba.pinned (OpenSpec.ofChange lawS0119CSymmetricSpec)

/-- ITS FALSE NEIGHBOUR: 'it returns false'. Refute it at one input. -/
def lawS0119CSymmetricWrong : ChangeSpec := { name := "lawS0119CSymmetric", fn := fun _ => fun
  | [d1, d2, d3] => { results := [.lit (.bool false)], args := [d1, d2, d3] }
  | _ => none }
def LawS0119CSymmetricWrongFalsely : Prop := lawS0119CSymmetricRow.holds Yba.pinned (OpenSpec.ofChange lawS0119CSymmetricWrong)

end Rows
end Go.Proofs.Ybulkblc
