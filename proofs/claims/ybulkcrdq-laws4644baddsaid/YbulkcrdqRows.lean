/-
  No cell of these rows narrows 'for every input' (looked for: loops, veiled, ifaces, maps, wideKeys, modest, calm, conditions, laid).
  DERIVED. THE GIVEN ROWS OF THIS SEAT. 3 by the template 'for every input the law returns true; each argument reads behind the call as it read before'; 0 by the template 'total and deterministic' (their statements: YbulkcrdqTotals.lean).
  GIVEN WITH THE SEED: the statements are not yours to turn. If you find one false, say at which input.
  Laid BY PROGRAM, IN A SANDBOX (cutbox-rows.mjs): the forced cells as the released guide's own fill.sh prints them over the translation 2f5501f7cefe86e2… (all of the seat's roots in one cut). By AI agents, Wed Nov 11 2026. No macro, syntax, notation, axiom, sorry.
-/
import Derived.Test.YbulkcrdqChecked
import GoSem.Claim
import GoSem.ClaimJoined
import GoSem.ClaimMapViews
import Derived.JoinedTies
import Derived.KernelRfl
namespace Go.Proofs.Ybulkcrdq
/- THE CELL 'sum', in the pinned program and in every row, IS THE sha256 OF THE DUMP (.gsa) THAT YbulkcrdqProg.lean LOADS. Nothing in Lean hashes anything: it is a label: what it is worth is what the hold of that sum in a sandbox is worth. -/
noncomputable def Yba.pinned : Pinned := { name := "ybulkcrdq", sum := "2f5501f7cefe86e2a72ed509e5c1acf07bc43d4307b1cdcd10eb26efecb37c45", checked := Yba.checked }
namespace Rows
def none {H : Type} : Left H := { results := [], args := [] }

/-- 'static.LawS4644AShape': WHATEVER THE INPUT: true; the input reads as it did. -/
def lawS4644AShapeSpec : ChangeSpec := { name := "lawS4644AShape", fn := fun _ => fun
  | [d1, d2] => { results := [.lit (.bool true)], args := [d1, d2] }
  | _ => none }
def lawS4644AShapeRow : OpenClaim := { program := "ybulkcrdq", sum := "2f5501f7cefe86e2a72ed509e5c1acf07bc43d4307b1cdcd10eb26efecb37c45", func := "example.com/horocycle/horocycle/internal/static.LawS4644AShape", spec := "lawS4644AShape", apart := false }
def LawS4644AShapeSaid : Prop := lawS4644AShapeRow.holds Yba.pinned (OpenSpec.ofChange lawS4644AShapeSpec)

/-- ITS FALSE NEIGHBOUR: 'it returns false'. Refute it at one input. -/
def lawS4644AShapeWrong : ChangeSpec := { name := "lawS4644AShape", fn := fun _ => fun
  | [d1, d2] => { results := [.lit (.bool false)], args := [d1, d2] }
  | _ => none }
def LawS4644AShapeWrongFalsely : Prop := lawS4644AShapeRow.holds Yba.pinned (OpenSpec.ofChange lawS4644AShapeWrong)

/-- 'churn.LawS4644BAdd': WHATEVER THE INPUT: true; the input reads as it did. -/
def lawS4644BAddSpec : ChangeSpec := { name := "lawS4644BAdd", fn := fun _ => fun
  | [d1, d2] => { results := [.lit (.bool true)], args := [d1, d2] }
  | _ => none }
def lawS4644BAddRow : OpenClaim := { program := "ybulkcrdq", sum := "2f5501f7cefe86e2a72ed509e5c1acf07bc43d4307b1cdcd10eb26efecb37c45", func := "example.com/horocycle/horocycle/internal/churn.LawS4644BAdd", spec := "lawS4644BAdd", inPlace := ["(*internal/sync.Mutex).Lock", "internal/race.Disable", "sync/atomic.CompareAndSwapInt32", "internal/race.Enable", "internal/race.Acquire", "(*internal/sync.Mutex).lockSlow", "internal/sync.runtime_canSpin", "internal/sync.runtime_doSpin", "internal/sync.throw", "internal/sync.runtime_nanotime", "internal/sync.runtime_SemacquireMutex", "sync/atomic.AddInt32", "(*internal/sync.Mutex).Unlock", "internal/race.ReleaseMerge", "(*internal/sync.Mutex).unlockSlow", "internal/sync.fatal", "internal/sync.runtime_Semrelease", "(*internal/sync.Mutex).TryLock"], apart := false }
def LawS4644BAddSaid : Prop := lawS4644BAddRow.holds Yba.pinned (OpenSpec.ofChange lawS4644BAddSpec)

/-- ITS FALSE NEIGHBOUR: 'it returns false'. Refute it at one input. -/
def lawS4644BAddWrong : ChangeSpec := { name := "lawS4644BAdd", fn := fun _ => fun
  | [d1, d2] => { results := [.lit (.bool false)], args := [d1, d2] }
  | _ => none }
def LawS4644BAddWrongFalsely : Prop := lawS4644BAddRow.holds Yba.pinned (OpenSpec.ofChange lawS4644BAddWrong)

/-- 'churn.LawS4644COther': WHATEVER THE INPUT: true; the input reads as it did. -/
def lawS4644COtherSpec : ChangeSpec := { name := "lawS4644COther", fn := fun _ => fun
  | [d1, d2, d3, d4] => { results := [.lit (.bool true)], args := [d1, d2, d3, d4] }
  | _ => none }
def lawS4644COtherRow : OpenClaim := { program := "ybulkcrdq", sum := "2f5501f7cefe86e2a72ed509e5c1acf07bc43d4307b1cdcd10eb26efecb37c45", func := "example.com/horocycle/horocycle/internal/churn.LawS4644COther", spec := "lawS4644COther", inPlace := ["math/bits.Add64"], apart := false }
def LawS4644COtherSaid : Prop := lawS4644COtherRow.holds Yba.pinned (OpenSpec.ofChange lawS4644COtherSpec)

/-- ITS FALSE NEIGHBOUR: 'it returns false'. Refute it at one input. -/
def lawS4644COtherWrong : ChangeSpec := { name := "lawS4644COther", fn := fun _ => fun
  | [d1, d2, d3, d4] => { results := [.lit (.bool false)], args := [d1, d2, d3, d4] }
  | _ => none }
def LawS4644COtherWrongFalsely : Prop := lawS4644COtherRow.holds Yba.pinned (OpenSpec.ofChange lawS4644COtherWrong)

end Rows
end Go.Proofs.Ybulkcrdq
