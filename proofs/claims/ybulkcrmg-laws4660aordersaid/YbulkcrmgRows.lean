/-
  No cell of these rows narrows 'for every input' (looked for: loops, veiled, ifaces, maps, wideKeys, modest, calm, conditions, laid).
  DERIVED. THE GIVEN ROWS OF THIS SEAT. 1 by the template 'for every input the law returns true; each argument reads behind the call as it read before'; 0 by the template 'total and deterministic' (their statements: YbulkcrmgTotals.lean).
  GIVEN WITH THE SEED: the statements are not yours to turn. If you find one false, say at which input.
  Laid BY PROGRAM, IN A SANDBOX (cutbox-rows.mjs): the forced cells as the released guide's own fill.sh prints them over the translation 9974284c1ab16aa4… (all of the seat's roots in one cut). By AI agents, Wed Nov 11 2026. No macro, syntax, notation, axiom, sorry.
-/
import Derived.Test.YbulkcrmgChecked
import GoSem.Claim
import GoSem.ClaimJoined
import GoSem.ClaimMapViews
import Derived.JoinedTies
import Derived.KernelRfl
namespace Go.Proofs.Ybulkcrmg
/- THE CELL 'sum', in the pinned program and in every row, IS THE sha256 OF THE DUMP (.gsa) THAT YbulkcrmgProg.lean LOADS. Nothing in Lean hashes anything: it is a label: what it is worth is what the hold of that sum in a sandbox is worth. -/
noncomputable def Yba.pinned : Pinned := { name := "ybulkcrmg", sum := "9974284c1ab16aa4a5462ed2ba73130d20edc7d79983a544b5c38b76d10d138f", checked := Yba.checked }
namespace Rows
def none {H : Type} : Left H := { results := [], args := [] }

/-- 'decision.LawS4660AOrder': WHATEVER THE INPUT: true; the input reads as it did. -/
def lawS4660AOrderSpec : ChangeSpec := { name := "lawS4660AOrder", fn := fun _ => fun
  | [d1, d2, d3, d4, d5] => { results := [.lit (.bool true)], args := [d1, d2, d3, d4, d5] }
  | _ => none }
def lawS4660AOrderRow : OpenClaim := { program := "ybulkcrmg", sum := "9974284c1ab16aa4a5462ed2ba73130d20edc7d79983a544b5c38b76d10d138f", func := "example.com/strict-policy/strict-policy/internal/decision.LawS4660AOrder", spec := "lawS4660AOrder", apart := false }
def LawS4660AOrderSaid : Prop := lawS4660AOrderRow.holds Yba.pinned (OpenSpec.ofChange lawS4660AOrderSpec)

/-- ITS FALSE NEIGHBOUR: 'it returns false'. Refute it at one input. -/
def lawS4660AOrderWrong : ChangeSpec := { name := "lawS4660AOrder", fn := fun _ => fun
  | [d1, d2, d3, d4, d5] => { results := [.lit (.bool false)], args := [d1, d2, d3, d4, d5] }
  | _ => none }
def LawS4660AOrderWrongFalsely : Prop := lawS4660AOrderRow.holds Yba.pinned (OpenSpec.ofChange lawS4660AOrderWrong)

end Rows
end Go.Proofs.Ybulkcrmg
