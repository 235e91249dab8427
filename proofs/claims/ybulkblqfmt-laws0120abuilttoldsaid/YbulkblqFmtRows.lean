/-
  No cell of these rows narrows 'for every input' (looked for: loops, veiled, ifaces, maps, wideKeys, modest, calm, conditions, laid).
  DERIVED. THE GIVEN ROWS OF THIS SEAT. 6 by the template 'for every input the law returns true; each argument reads behind the call as it read before'; 0 by the template 'total and deterministic' (their statements: YbulkblqFmtTotals.lean).
  GIVEN WITH THE SEED: the statements are not yours to turn. If you find one false, say at which input.
  Laid BY PROGRAM, IN A SANDBOX (cutbox-rows.mjs): the forced cells as the released guide's own fill.sh prints them over the translation f7582882e362b309… (all of the seat's roots in one cut). By AI agents, Wed Nov 11 2026. No macro, syntax, notation, axiom, sorry.
-/
import Derived.Test.YbulkblqFmtChecked
import GoSem.Claim
import GoSem.ClaimJoined
import GoSem.ClaimMapViews
import Derived.JoinedTies
import Derived.KernelRfl
namespace Go.Proofs.YbulkblqFmt
/- THE CELL 'sum', in the pinned program and in every row, IS THE sha256 OF THE DUMP (.gsa) THAT YbulkblqFmtProg.lean LOADS. Nothing in Lean hashes anything: it is a label: what it is worth is what the hold of that sum in a sandbox is worth. -/
noncomputable def Ybaf.pinned : Pinned := { name := "ybulkblqfmt", sum := "f7582882e362b309411b04d7f2f851f47574bb4af60ca954f38bedc415cf48a3", checked := Ybaf.checked }
namespace Rows
def none {H : Type} : Left H := { results := [], args := [] }

/-- 'shoreline.LawS0120ARaw': WHATEVER THE INPUT: true; the input reads as it did. -/
def lawS0120ARawSpec : ChangeSpec := { name := "lawS0120ARaw", fn := fun _ => fun
  | [d1, d2, d3] => { results := [.lit (.bool true)], args := [d1, d2, d3] }
  | _ => none }
def lawS0120ARawRow : OpenClaim := { program := "ybulkblqfmt", sum := "f7582882e362b309411b04d7f2f851f47574bb4af60ca954f38bedc415cf48a3", func := "example.com/shoreline/shoreline.LawS0120ARaw", spec := "lawS0120ARaw", stops := ["fmt.Sprintf, its operands' methods called"], inPlace := ["fmt.Sprintf"], unfollowed := true, recurses := true, named := ["encoding/binary.BigEndian"], apart := false }
/-- NO THEOREM (fmt's text is open here; it may be false): for the released tool's asking of the row's closed facts alone. THE STATEMENT IS 'LawS0120ARawToldSaid' (YbulkblqFmtCards.lean). -/
def LawS0120ARawFormAsk : Prop := lawS0120ARawRow.holds Ybaf.pinned (OpenSpec.ofChange lawS0120ARawSpec)

/-- ITS FALSE NEIGHBOUR: 'it returns false'. Refute it at one input. -/
def lawS0120ARawWrong : ChangeSpec := { name := "lawS0120ARaw", fn := fun _ => fun
  | [d1, d2, d3] => { results := [.lit (.bool false)], args := [d1, d2, d3] }
  | _ => none }
def LawS0120ARawWrongFormAsk : Prop := lawS0120ARawRow.holds Ybaf.pinned (OpenSpec.ofChange lawS0120ARawWrong)

/-- 'shoreline.LawS0120ABuilt': WHATEVER THE INPUT: true; the input reads as it did. -/
def lawS0120ABuiltSpec : ChangeSpec := { name := "lawS0120ABuilt", fn := fun _ => fun
  | [d1, d2] => { results := [.lit (.bool true)], args := [d1, d2] }
  | _ => none }
def lawS0120ABuiltRow : OpenClaim := { program := "ybulkblqfmt", sum := "f7582882e362b309411b04d7f2f851f47574bb4af60ca954f38bedc415cf48a3", func := "example.com/shoreline/shoreline.LawS0120ABuilt", spec := "lawS0120ABuilt", stops := ["fmt.Sprintf, its operands' methods called"], inPlace := ["fmt.Sprintf"], unfollowed := true, recurses := true, named := ["encoding/binary.BigEndian"], apart := false }
/-- NO THEOREM (fmt's text is open here; it may be false): for the released tool's asking of the row's closed facts alone. THE STATEMENT IS 'LawS0120ABuiltToldSaid' (YbulkblqFmtCards.lean). -/
def LawS0120ABuiltFormAsk : Prop := lawS0120ABuiltRow.holds Ybaf.pinned (OpenSpec.ofChange lawS0120ABuiltSpec)

/-- ITS FALSE NEIGHBOUR: 'it returns false'. Refute it at one input. -/
def lawS0120ABuiltWrong : ChangeSpec := { name := "lawS0120ABuilt", fn := fun _ => fun
  | [d1, d2] => { results := [.lit (.bool false)], args := [d1, d2] }
  | _ => none }
def LawS0120ABuiltWrongFormAsk : Prop := lawS0120ABuiltRow.holds Ybaf.pinned (OpenSpec.ofChange lawS0120ABuiltWrong)

/-- 'ss.LawS0120BRule': WHATEVER THE INPUT: true; the input reads as it did. -/
def lawS0120BRuleSpec : ChangeSpec := { name := "lawS0120BRule", fn := fun _ => fun
  | [d1, d2, d3] => { results := [.lit (.bool true)], args := [d1, d2, d3] }
  | _ => none }
def lawS0120BRuleRow : OpenClaim := { program := "ybulkblqfmt", sum := "f7582882e362b309411b04d7f2f851f47574bb4af60ca954f38bedc415cf48a3", func := "example.com/shoreline/shoreline/ss.LawS0120BRule", spec := "lawS0120BRule", stops := ["fmt.Sprintf, its operands' methods called"], inPlace := ["fmt.Sprintf"], unfollowed := true, recurses := true, apart := false }
/-- NO THEOREM (fmt's text is open here; it may be false): for the released tool's asking of the row's closed facts alone. THE STATEMENT IS 'LawS0120BRuleToldSaid' (YbulkblqFmtCards.lean). -/
def LawS0120BRuleFormAsk : Prop := lawS0120BRuleRow.holds Ybaf.pinned (OpenSpec.ofChange lawS0120BRuleSpec)

/-- ITS FALSE NEIGHBOUR: 'it returns false'. Refute it at one input. -/
def lawS0120BRuleWrong : ChangeSpec := { name := "lawS0120BRule", fn := fun _ => fun
  | [d1, d2, d3] => { results := [.lit (.bool false)], args := [d1, d2, d3] }
  | _ => none }
def LawS0120BRuleWrongFormAsk : Prop := lawS0120BRuleRow.holds Ybaf.pinned (OpenSpec.ofChange lawS0120BRuleWrong)

/-- 'ss.LawS0120BFirstKept': WHATEVER THE INPUT: true; the input reads as it did. -/
def lawS0120BFirstKeptSpec : ChangeSpec := { name := "lawS0120BFirstKept", fn := fun _ => fun
  | [d1, d2, d3] => { results := [.lit (.bool true)], args := [d1, d2, d3] }
  | _ => none }
def lawS0120BFirstKeptRow : OpenClaim := { program := "ybulkblqfmt", sum := "f7582882e362b309411b04d7f2f851f47574bb4af60ca954f38bedc415cf48a3", func := "example.com/shoreline/shoreline/ss.LawS0120BFirstKept", spec := "lawS0120BFirstKept", stops := ["fmt.Sprintf, its operands' methods called"], inPlace := ["fmt.Sprintf"], unfollowed := true, recurses := true, apart := false }
/-- NO THEOREM (fmt's text is open here; it may be false): for the released tool's asking of the row's closed facts alone. THE STATEMENT IS 'LawS0120BFirstKeptToldSaid' (YbulkblqFmtCards.lean). -/
def LawS0120BFirstKeptFormAsk : Prop := lawS0120BFirstKeptRow.holds Ybaf.pinned (OpenSpec.ofChange lawS0120BFirstKeptSpec)

/-- ITS FALSE NEIGHBOUR: 'it returns false'. Refute it at one input. -/
def lawS0120BFirstKeptWrong : ChangeSpec := { name := "lawS0120BFirstKept", fn := fun _ => fun
  | [d1, d2, d3] => { results := [.lit (.bool false)], args := [d1, d2, d3] }
  | _ => none }
def LawS0120BFirstKeptWrongFormAsk : Prop := lawS0120BFirstKeptRow.holds Ybaf.pinned (OpenSpec.ofChange lawS0120BFirstKeptWrong)

/-- 'ss.LawS0120CShort': WHATEVER THE INPUT: true; the input reads as it did. -/
def lawS0120CShortSpec : ChangeSpec := { name := "lawS0120CShort", fn := fun _ => fun
  | [d1, d2, d3] => { results := [.lit (.bool true)], args := [d1, d2, d3] }
  | _ => none }
def lawS0120CShortRow : OpenClaim := { program := "ybulkblqfmt", sum := "f7582882e362b309411b04d7f2f851f47574bb4af60ca954f38bedc415cf48a3", func := "example.com/shoreline/shoreline/ss.LawS0120CShort", spec := "lawS0120CShort", stops := ["fmt.Sprintf, its operands' methods called"], inPlace := ["fmt.Sprintf"], unfollowed := true, recurses := true, apart := false }
/-- NO THEOREM (fmt's text is open here; it may be false): for the released tool's asking of the row's closed facts alone. THE STATEMENT IS 'LawS0120CShortToldSaid' (YbulkblqFmtCards.lean). -/
def LawS0120CShortFormAsk : Prop := lawS0120CShortRow.holds Ybaf.pinned (OpenSpec.ofChange lawS0120CShortSpec)

/-- ITS FALSE NEIGHBOUR: 'it returns false'. Refute it at one input. -/
def lawS0120CShortWrong : ChangeSpec := { name := "lawS0120CShort", fn := fun _ => fun
  | [d1, d2, d3] => { results := [.lit (.bool false)], args := [d1, d2, d3] }
  | _ => none }
def LawS0120CShortWrongFormAsk : Prop := lawS0120CShortRow.holds Ybaf.pinned (OpenSpec.ofChange lawS0120CShortWrong)

/-- 'ss.LawS0120CEdge': WHATEVER THE INPUT: true; the input reads as it did. -/
def lawS0120CEdgeSpec : ChangeSpec := { name := "lawS0120CEdge", fn := fun _ => fun
  | [d1, d2, d3, d4] => { results := [.lit (.bool true)], args := [d1, d2, d3, d4] }
  | _ => none }
def lawS0120CEdgeRow : OpenClaim := { program := "ybulkblqfmt", sum := "f7582882e362b309411b04d7f2f851f47574bb4af60ca954f38bedc415cf48a3", func := "example.com/shoreline/shoreline/ss.LawS0120CEdge", spec := "lawS0120CEdge", stops := ["fmt.Sprintf, its operands' methods called"], inPlace := ["fmt.Sprintf"], unfollowed := true, recurses := true, apart := false }
/-- NO THEOREM (fmt's text is open here; it may be false): for the released tool's asking of the row's closed facts alone. THE STATEMENT IS 'LawS0120CEdgeToldSaid' (YbulkblqFmtCards.lean). -/
def LawS0120CEdgeFormAsk : Prop := lawS0120CEdgeRow.holds Ybaf.pinned (OpenSpec.ofChange lawS0120CEdgeSpec)

/-- ITS FALSE NEIGHBOUR: 'it returns false'. Refute it at one input. -/
def lawS0120CEdgeWrong : ChangeSpec := { name := "lawS0120CEdge", fn := fun _ => fun
  | [d1, d2, d3, d4] => { results := [.lit (.bool false)], args := [d1, d2, d3, d4] }
  | _ => none }
def LawS0120CEdgeWrongFormAsk : Prop := lawS0120CEdgeRow.holds Ybaf.pinned (OpenSpec.ofChange lawS0120CEdgeWrong)

end Rows
end Go.Proofs.YbulkblqFmt
