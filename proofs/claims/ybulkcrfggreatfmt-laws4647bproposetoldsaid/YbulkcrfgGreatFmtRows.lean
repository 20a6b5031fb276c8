/-
  No cell of these rows narrows 'for every input' (looked for: loops, veiled, ifaces, maps, wideKeys, modest, calm, conditions, laid).
  DERIVED. THE GIVEN ROWS OF THIS SEAT. 2 by the template 'for every input the law returns true; each argument reads behind the call as it read before'; 0 by the template 'total and deterministic' (their statements: YbulkcrfgGreatFmtTotals.lean).
  GIVEN WITH THE SEED: the statements are not yours to turn. If you find one false, say at which input.
  Laid BY PROGRAM, IN A SANDBOX (cutbox-rows.mjs): the forced cells as the released guide's own fill.sh prints them over the translation 54cab3cacb0da095… (all of the seat's roots in one cut). By AI agents, Wed Nov 11 2026. No macro, syntax, notation, axiom, sorry.
-/
import Derived.Test.YbulkcrfgGreatFmtChecked
import GoSem.Claim
import GoSem.ClaimJoined
import GoSem.ClaimMapViews
import Derived.JoinedTies
import Derived.KernelRfl
namespace Go.Proofs.YbulkcrfgGreatFmt
/- THE CELL 'sum', in the pinned program and in every row, IS THE sha256 OF THE DUMP (.gsa) THAT YbulkcrfgGreatFmtProg.lean LOADS. Nothing in Lean hashes anything: it is a label: what it is worth is what the hold of that sum in a sandbox is worth. -/
noncomputable def Ybaz.pinned : Pinned := { name := "ybulkcrfggreatfmt", sum := "54cab3cacb0da0958a2687c50249ef327f822a82661c046022d641082cbab75d", checked := Ybaz.checked }
namespace Rows
def none {H : Type} : Left H := { results := [], args := [] }

/-- 'gloaming.LawS4647BPropose': WHATEVER THE INPUT: true; the input reads as it did. -/
def lawS4647BProposeSpec : ChangeSpec := { name := "lawS4647BPropose", fn := fun _ => fun
  | [d1, d2, d3, d4, d5, d6] => { results := [.lit (.bool true)], args := [d1, d2, d3, d4, d5, d6] }
  | _ => none }
def lawS4647BProposeRow : OpenClaim := { program := "ybulkcrfggreatfmt", sum := "54cab3cacb0da0958a2687c50249ef327f822a82661c046022d641082cbab75d", func := "example.com/gloaming/gloaming.LawS4647BPropose", spec := "lawS4647BPropose", stops := ["fmt.errorf"], inPlace := ["internal/abi.NoEscape", "internal/bytealg.MakeNoZero", "slices.overlaps[*example.com/gloaming/gloaming.stretch[example.com/gloaming/gloaming.acceptedPhase]]", "slices.overlaps[example.com/gloaming/gloaming.acceptedList]", "fmt.errorf"], unfollowed := true, recurses := true, apart := false }
/-- NO THEOREM (fmt's text is open here; it may be false): for the released tool's asking of the row's closed facts alone. THE STATEMENT IS 'LawS4647BProposeToldSaid' (YbulkcrfgGreatFmtCards.lean). -/
def LawS4647BProposeFormAsk : Prop := lawS4647BProposeRow.holds Ybaz.pinned (OpenSpec.ofChange lawS4647BProposeSpec)

/-- ITS FALSE NEIGHBOUR: 'it returns false'. Refute it at one input. -/
def lawS4647BProposeWrong : ChangeSpec := { name := "lawS4647BPropose", fn := fun _ => fun
  | [d1, d2, d3, d4, d5, d6] => { results := [.lit (.bool false)], args := [d1, d2, d3, d4, d5, d6] }
  | _ => none }
def LawS4647BProposeWrongFormAsk : Prop := lawS4647BProposeRow.holds Ybaz.pinned (OpenSpec.ofChange lawS4647BProposeWrong)

/-- 'gloaming.LawS4647BNothingAccepted': WHATEVER THE INPUT: true; the input reads as it did. -/
def lawS4647BNothingAcceptedSpec : ChangeSpec := { name := "lawS4647BNothingAccepted", fn := fun _ => fun
  | [d1, d2, d3, d4] => { results := [.lit (.bool true)], args := [d1, d2, d3, d4] }
  | _ => none }
def lawS4647BNothingAcceptedRow : OpenClaim := { program := "ybulkcrfggreatfmt", sum := "54cab3cacb0da0958a2687c50249ef327f822a82661c046022d641082cbab75d", func := "example.com/gloaming/gloaming.LawS4647BNothingAccepted", spec := "lawS4647BNothingAccepted", stops := ["fmt.errorf"], inPlace := ["internal/abi.NoEscape", "internal/bytealg.MakeNoZero", "slices.overlaps[*example.com/gloaming/gloaming.stretch[example.com/gloaming/gloaming.acceptedPhase]]", "slices.overlaps[example.com/gloaming/gloaming.acceptedList]", "fmt.errorf"], unfollowed := true, recurses := true, apart := false }
/-- NO THEOREM (fmt's text is open here; it may be false): for the released tool's asking of the row's closed facts alone. THE STATEMENT IS 'LawS4647BNothingAcceptedToldSaid' (YbulkcrfgGreatFmtCards.lean). -/
def LawS4647BNothingAcceptedFormAsk : Prop := lawS4647BNothingAcceptedRow.holds Ybaz.pinned (OpenSpec.ofChange lawS4647BNothingAcceptedSpec)

/-- ITS FALSE NEIGHBOUR: 'it returns false'. Refute it at one input. -/
def lawS4647BNothingAcceptedWrong : ChangeSpec := { name := "lawS4647BNothingAccepted", fn := fun _ => fun
  | [d1, d2, d3, d4] => { results := [.lit (.bool false)], args := [d1, d2, d3, d4] }
  | _ => none }
def LawS4647BNothingAcceptedWrongFormAsk : Prop := lawS4647BNothingAcceptedRow.holds Ybaz.pinned (OpenSpec.ofChange lawS4647BNothingAcceptedWrong)

end Rows
end Go.Proofs.YbulkcrfgGreatFmt
