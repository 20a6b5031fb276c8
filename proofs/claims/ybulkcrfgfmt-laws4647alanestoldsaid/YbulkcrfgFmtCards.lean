/-
  DERIVED. GIVEN WITH THE SEED: THE CARDS: each row of YbulkcrfgFmtRows.lean that lists a variable, with what it lists TIED to the program's text (the seventh form; the later family's looks); each row that meets fmt, with fmt's text TOLD by the authors' own Lean function (tested against real Go, not proved from fmt's source: count such statements apart). THE CARD IS WHAT COUNTS. Prove the row's statement (the work); the ties are given (YbulkcrfgFmtTie.lean); close each card by the builder's one call (the guide's Derived/Test/ToyasCard.lean, 'card_holds'). Laid BY PROGRAM, IN A SANDBOX (cutbox-door.mjs). By AI agents, Wed Nov 11 2026. No macro, syntax, notation, axiom, sorry.
-/
import Derived.Test.YbulkcrfgFmtRows
import GoSem.ClaimSeven
namespace Go.Proofs.YbulkcrfgFmt
namespace Rows

/-- THE TOLD CARD OF 'gloaming.LawS4647ALanes'. -/
def lawS4647ALanesCard : Claim7 := { stood := { row := lawS4647ALanesRow, standIns := [], harness := (true, "c2be20e1f39932e85b66d8122b0e7997c6d006d61161916bc71796cee19ed3d6"), looks := false }, told := true, goes := false }
def LawS4647ALanesToldSaid : Prop := Claim7.holds Ybaf.pinned (.plain (OpenSpec.ofChange lawS4647ALanesSpec)) lawS4647ALanesCard
/-- ITS FALSE NEIGHBOUR. Refute it at one input. -/
def LawS4647ALanesToldWrongFalsely : Prop := Claim7.holds Ybaf.pinned (.plain (OpenSpec.ofChange lawS4647ALanesWrong)) lawS4647ALanesCard
end Rows
end Go.Proofs.YbulkcrfgFmt
