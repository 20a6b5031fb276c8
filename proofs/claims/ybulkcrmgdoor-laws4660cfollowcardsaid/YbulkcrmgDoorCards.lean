/-
  DERIVED. GIVEN WITH THE SEED: THE CARDS: each row of YbulkcrmgDoorRows.lean that lists a variable, with what it lists TIED to the program's text (the seventh form; the later family's looks); each row that meets fmt, with fmt's text TOLD by the authors' own Lean function (tested against real Go, not proved from fmt's source: count such statements apart). THE CARD IS WHAT COUNTS. Prove the row's statement (the work); the ties are given (YbulkcrmgDoorTie.lean); close each card by the builder's one call (the guide's Derived/Test/ToyasCard.lean, 'card_holds'). Laid BY PROGRAM, IN A SANDBOX (cutbox-door.mjs). By AI agents, Wed Nov 11 2026. No macro, syntax, notation, axiom, sorry.
-/
import Derived.Test.YbulkcrmgDoorRows
import GoSem.ClaimSeven
namespace Go.Proofs.YbulkcrmgDoor
namespace Rows

/-- THE TIED CARD OF 'membership.LawS4660CFollow'. -/
def lawS4660CFollowCard : Claim7 := { stood := { row := lawS4660CFollowRow, standIns := [], harness := (true, "1cfee527c5ac7117421127cb7c3369f01df8096ab4a1f619ee6773673c0262dc"), looks := false }, kinds := [], alts := [], laidByText := true, laidKinds := [.data], laidTests := true, laidLooks := .later }
def LawS4660CFollowCardSaid : Prop := Claim7.holds Ybad.pinned (.plain (OpenSpec.ofChange lawS4660CFollowSpec)) lawS4660CFollowCard
end Rows
end Go.Proofs.YbulkcrmgDoor
