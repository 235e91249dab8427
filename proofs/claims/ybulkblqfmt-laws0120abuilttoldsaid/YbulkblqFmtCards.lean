/-
  DERIVED. GIVEN WITH THE SEED: THE CARDS: each row of YbulkblqFmtRows.lean that lists a variable, with what it lists TIED to the program's text (the seventh form; the later family's looks); each row that meets fmt, with fmt's text TOLD by the authors' own Lean function (tested against real Go, not proved from fmt's source: count such statements apart). THE CARD IS WHAT COUNTS. Prove the row's statement (the work); the ties are given (YbulkblqFmtTie.lean); close each card by the builder's one call (the guide's Derived/Test/ToyasCard.lean, 'card_holds'). Laid BY PROGRAM, IN A SANDBOX (cutbox-door.mjs). By AI agents, Wed Nov 11 2026. No macro, syntax, notation, axiom, sorry.
-/
import Derived.Test.YbulkblqFmtRows
import GoSem.ClaimSeven
namespace Go.Proofs.YbulkblqFmt
namespace Rows

/-- THE TOLD CARD OF 'shoreline.LawS0120ARaw'. -/
def lawS0120ARawCard : Claim7 := { stood := { row := lawS0120ARawRow, standIns := [], harness := (true, "0a26b30e5b4c7c9846fe255ce941be3a5f19ef4053838b1e4a406b7df3071de1"), looks := false }, told := true, goes := false }
def LawS0120ARawToldSaid : Prop := Claim7.holds Ybaf.pinned (.plain (OpenSpec.ofChange lawS0120ARawSpec)) lawS0120ARawCard
/-- ITS FALSE NEIGHBOUR. Refute it at one input. -/
def LawS0120ARawToldWrongFalsely : Prop := Claim7.holds Ybaf.pinned (.plain (OpenSpec.ofChange lawS0120ARawWrong)) lawS0120ARawCard

/-- THE TOLD CARD OF 'shoreline.LawS0120ABuilt'. -/
def lawS0120ABuiltCard : Claim7 := { stood := { row := lawS0120ABuiltRow, standIns := [], harness := (true, "0a26b30e5b4c7c9846fe255ce941be3a5f19ef4053838b1e4a406b7df3071de1"), looks := false }, told := true, goes := false }
def LawS0120ABuiltToldSaid : Prop := Claim7.holds Ybaf.pinned (.plain (OpenSpec.ofChange lawS0120ABuiltSpec)) lawS0120ABuiltCard
/-- ITS FALSE NEIGHBOUR. Refute it at one input. -/
def LawS0120ABuiltToldWrongFalsely : Prop := Claim7.holds Ybaf.pinned (.plain (OpenSpec.ofChange lawS0120ABuiltWrong)) lawS0120ABuiltCard

/-- THE TOLD CARD OF 'ss.LawS0120BRule'. -/
def lawS0120BRuleCard : Claim7 := { stood := { row := lawS0120BRuleRow, standIns := [], harness := (true, "0a26b30e5b4c7c9846fe255ce941be3a5f19ef4053838b1e4a406b7df3071de1"), looks := false }, told := true, goes := false }
def LawS0120BRuleToldSaid : Prop := Claim7.holds Ybaf.pinned (.plain (OpenSpec.ofChange lawS0120BRuleSpec)) lawS0120BRuleCard
/-- ITS FALSE NEIGHBOUR. Refute it at one input. -/
def LawS0120BRuleToldWrongFalsely : Prop := Claim7.holds Ybaf.pinned (.plain (OpenSpec.ofChange lawS0120BRuleWrong)) lawS0120BRuleCard

/-- THE TOLD CARD OF 'ss.LawS0120BFirstKept'. -/
def lawS0120BFirstKeptCard : Claim7 := { stood := { row := lawS0120BFirstKeptRow, standIns := [], harness := (true, "0a26b30e5b4c7c9846fe255ce941be3a5f19ef4053838b1e4a406b7df3071de1"), looks := false }, told := true, goes := false }
def LawS0120BFirstKeptToldSaid : Prop := Claim7.holds Ybaf.pinned (.plain (OpenSpec.ofChange lawS0120BFirstKeptSpec)) lawS0120BFirstKeptCard
/-- ITS FALSE NEIGHBOUR. Refute it at one input. -/
def LawS0120BFirstKeptToldWrongFalsely : Prop := Claim7.holds Ybaf.pinned (.plain (OpenSpec.ofChange lawS0120BFirstKeptWrong)) lawS0120BFirstKeptCard

/-- THE TOLD CARD OF 'ss.LawS0120CShort'. -/
def lawS0120CShortCard : Claim7 := { stood := { row := lawS0120CShortRow, standIns := [], harness := (true, "0a26b30e5b4c7c9846fe255ce941be3a5f19ef4053838b1e4a406b7df3071de1"), looks := false }, told := true, goes := false }
def LawS0120CShortToldSaid : Prop := Claim7.holds Ybaf.pinned (.plain (OpenSpec.ofChange lawS0120CShortSpec)) lawS0120CShortCard
/-- ITS FALSE NEIGHBOUR. Refute it at one input. -/
def LawS0120CShortToldWrongFalsely : Prop := Claim7.holds Ybaf.pinned (.plain (OpenSpec.ofChange lawS0120CShortWrong)) lawS0120CShortCard

/-- THE TOLD CARD OF 'ss.LawS0120CEdge'. -/
def lawS0120CEdgeCard : Claim7 := { stood := { row := lawS0120CEdgeRow, standIns := [], harness := (true, "0a26b30e5b4c7c9846fe255ce941be3a5f19ef4053838b1e4a406b7df3071de1"), looks := false }, told := true, goes := false }
def LawS0120CEdgeToldSaid : Prop := Claim7.holds Ybaf.pinned (.plain (OpenSpec.ofChange lawS0120CEdgeSpec)) lawS0120CEdgeCard
/-- ITS FALSE NEIGHBOUR. Refute it at one input. -/
def LawS0120CEdgeToldWrongFalsely : Prop := Claim7.holds Ybaf.pinned (.plain (OpenSpec.ofChange lawS0120CEdgeWrong)) lawS0120CEdgeCard
end Rows
end Go.Proofs.YbulkblqFmt
