/-
  DERIVED. GIVEN WITH THE SEED: THE CARDS: each row of YbulkcrfgGreatFmtRows.lean that lists a variable, with what it lists TIED to the program's text (the seventh form; the later family's looks); each row that meets fmt, with fmt's text TOLD by the authors' own Lean function (tested against real Go, not proved from fmt's source: count such statements apart). THE CARD IS WHAT COUNTS. Prove the row's statement (the work); the ties are given (YbulkcrfgGreatFmtTie.lean); close each card by the builder's one call (the guide's Derived/Test/ToyasCard.lean, 'card_holds'). Laid BY PROGRAM, IN A SANDBOX (cutbox-door.mjs). By AI agents, Wed Nov 11 2026. No macro, syntax, notation, axiom, sorry.
-/
import Derived.Test.YbulkcrfgGreatFmtRows
import GoSem.ClaimSeven
namespace Go.Proofs.YbulkcrfgGreatFmt
namespace Rows

/-- THE TOLD CARD OF 'gloaming.LawS4647BPropose'. -/
def lawS4647BProposeCard : Claim7 := { stood := { row := lawS4647BProposeRow, standIns := [], harness := (true, "baa96c4e6f0cb4a8e0dfb3f0bc5abc6a1114b76a59506206af80c9f7ee0a358d"), looks := false }, told := true, goes := false }
def LawS4647BProposeToldSaid : Prop := Claim7.holds Ybaz.pinned (.plain (OpenSpec.ofChange lawS4647BProposeSpec)) lawS4647BProposeCard
/-- ITS FALSE NEIGHBOUR. Refute it at one input. -/
def LawS4647BProposeToldWrongFalsely : Prop := Claim7.holds Ybaz.pinned (.plain (OpenSpec.ofChange lawS4647BProposeWrong)) lawS4647BProposeCard

/-- THE TOLD CARD OF 'gloaming.LawS4647BNothingAccepted'. -/
def lawS4647BNothingAcceptedCard : Claim7 := { stood := { row := lawS4647BNothingAcceptedRow, standIns := [], harness := (true, "baa96c4e6f0cb4a8e0dfb3f0bc5abc6a1114b76a59506206af80c9f7ee0a358d"), looks := false }, told := true, goes := false }
def LawS4647BNothingAcceptedToldSaid : Prop := Claim7.holds Ybaz.pinned (.plain (OpenSpec.ofChange lawS4647BNothingAcceptedSpec)) lawS4647BNothingAcceptedCard
/-- ITS FALSE NEIGHBOUR. Refute it at one input. -/
def LawS4647BNothingAcceptedToldWrongFalsely : Prop := Claim7.holds Ybaz.pinned (.plain (OpenSpec.ofChange lawS4647BNothingAcceptedWrong)) lawS4647BNothingAcceptedCard
end Rows
end Go.Proofs.YbulkcrfgGreatFmt
