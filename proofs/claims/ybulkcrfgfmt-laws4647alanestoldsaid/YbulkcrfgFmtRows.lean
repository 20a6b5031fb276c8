/-
  No cell of these rows narrows 'for every input' (looked for: loops, veiled, ifaces, maps, wideKeys, modest, calm, conditions, laid).
  DERIVED. THE GIVEN ROWS OF THIS SEAT. 1 by the template 'for every input the law returns true; each argument reads behind the call as it read before'; 0 by the template 'total and deterministic' (their statements: YbulkcrfgFmtTotals.lean).
  GIVEN WITH THE SEED: the statements are not yours to turn. If you find one false, say at which input.
  Laid BY PROGRAM, IN A SANDBOX (cutbox-rows.mjs): the forced cells as the released guide's own fill.sh prints them over the translation e5a773c08dca07bd… (all of the seat's roots in one cut). By AI agents, Wed Nov 11 2026. No macro, syntax, notation, axiom, sorry.
-/
import Derived.Test.YbulkcrfgFmtChecked
import GoSem.Claim
import GoSem.ClaimJoined
import GoSem.ClaimMapViews
import Derived.JoinedTies
import Derived.KernelRfl
namespace Go.Proofs.YbulkcrfgFmt
/- THE CELL 'sum', in the pinned program and in every row, IS THE sha256 OF THE DUMP (.gsa) THAT YbulkcrfgFmtProg.lean LOADS. Nothing in Lean hashes anything: it is a label: what it is worth is what the hold of that sum in a sandbox is worth. -/
noncomputable def Ybaf.pinned : Pinned := { name := "ybulkcrfgfmt", sum := "e5a773c08dca07bdc0a8aa968ca546a9121532366fd639400b856f70f144d9b5", checked := Ybaf.checked }
namespace Rows
def none {H : Type} : Left H := { results := [], args := [] }

/-- 'gloaming.LawS4647ALanes': WHATEVER THE INPUT: true; the input reads as it did. -/
def lawS4647ALanesSpec : ChangeSpec := { name := "lawS4647ALanes", fn := fun _ => fun
  | [d1, d2, d3, d4] => { results := [.lit (.bool true)], args := [d1, d2, d3, d4] }
  | _ => none }
def lawS4647ALanesRow : OpenClaim := { program := "ybulkcrfgfmt", sum := "e5a773c08dca07bdc0a8aa968ca546a9121532366fd639400b856f70f144d9b5", func := "example.com/gloaming/gloaming.LawS4647ALanes", spec := "lawS4647ALanes", stops := ["fmt.errorf"], inPlace := ["fmt.errorf"], apart := false }
/-- NO THEOREM (fmt's text is open here; it may be false): for the released tool's asking of the row's closed facts alone. THE STATEMENT IS 'LawS4647ALanesToldSaid' (YbulkcrfgFmtCards.lean). -/
def LawS4647ALanesFormAsk : Prop := lawS4647ALanesRow.holds Ybaf.pinned (OpenSpec.ofChange lawS4647ALanesSpec)

/-- ITS FALSE NEIGHBOUR: 'it returns false'. Refute it at one input. -/
def lawS4647ALanesWrong : ChangeSpec := { name := "lawS4647ALanes", fn := fun _ => fun
  | [d1, d2, d3, d4] => { results := [.lit (.bool false)], args := [d1, d2, d3, d4] }
  | _ => none }
def LawS4647ALanesWrongFormAsk : Prop := lawS4647ALanesRow.holds Ybaf.pinned (OpenSpec.ofChange lawS4647ALanesWrong)

end Rows
end Go.Proofs.YbulkcrfgFmt
