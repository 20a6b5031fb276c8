/-
  LawS4647BPropose: the law, cut.
-/
import Derived.Test.YbulkcrfgGreatFmtNms
namespace Go.Proofs.YbulkcrfgGreatFmt
open Go.RowKit
namespace Propose
open Kit

/-- The code from region k on. -/
def lfrom (k : Nat) : Code → Option Code
  | .region i o b => if i = k then some (.region i o b) else none
  | .seq a b => match lfrom k a with
    | some c => some (.seq c b)
    | none => lfrom k b
  | _ => none
noncomputable def law9 : Code := (Ybaz.f3.body.bind (lfrom 9)).getD .skip
noncomputable def law14 : Code := (Ybaz.f3.body.bind (lfrom 14)).getD .skip
noncomputable def law29 : Code := (Ybaz.f3.body.bind (lfrom 29)).getD .skip
noncomputable def law30 : Code := (Ybaz.f3.body.bind (lfrom 30)).getD .skip
noncomputable def law44 : Code := (Ybaz.f3.body.bind (lfrom 44)).getD .skip
noncomputable def law50 : Code := (Ybaz.f3.body.bind (lfrom 50)).getD .skip
noncomputable def law64 : Code := (Ybaz.f3.body.bind (lfrom 64)).getD .skip
noncomputable def law70 : Code := (Ybaz.f3.body.bind (lfrom 70)).getD .skip
noncomputable def law86 : Code := (Ybaz.f3.body.bind (lfrom 86)).getD .skip

/-- What the law is to give. -/
def lawPost (w0 : World) (e : Ending) (w' : World) : Prop := e = .returned (.bool true) ∧ Below w0.heap.size w0 w'

/-- What propose leaves: want is none or some t. -/
structure Left3 (w0 V : World) (m N T id k eb S mb bf : Nat) (gv phv : Value) (r : Option Nat) : Prop where
  low : Below w0.heap.size w0 V
  bf0 : V.cell? ⟨bf, 0, none⟩ = some (.string ⟨#[]⟩)
  bf1 : V.cell? ⟨bf, 1, none⟩ = some (.int .i64 0)
  mem : ∃ es c pv pk, V.heap[mb]? = some (.map es c) ∧ LkRow V m N T id gv (ptr eb) phv pv pk ∧ MRow V eb S mb ∧
      ((r = none ∧ es = #[] ∧ pv = .string ⟨#[]⟩ ∧ pk = .int .i64 0) ∨ (∃ t, t < 6 ∧ r = some t ∧ es = #[{ key := num (3 * k - 1), val := .string (lockS t), born := 0 }] ∧ pv = str (poolL t) ∧ pk = num k))
theorem Left3.below {w0 V V' : World} {m N T id k eb S mb bf : Nat} {gv phv : Value} {r : Option Nat} (h : Left3 w0 V m N T id k eb S mb bf gv phv r) (hb : Below V.heap.size V V') : Left3 w0 V' m N T id k eb S mb bf gv phv r := by
  obtain ⟨h1, h2, h3, es, c, pv, pk, k1, k2, k3, k4⟩ := h
  refine ⟨h1.trans (hb.mono h1.size), (hb.cell (World.block_lt_of_cell? V _ h2)).trans h2, (hb.cell (World.block_lt_of_cell? V _ h3)).trans h3, es, c, pv, pk, ?_, k2.below hb k2.lt, k3.other (hb.block eb (by obtain ⟨r, h, _⟩ := k3; exact h.lt)), k4⟩
  refine (hb.block mb ?_).trans k1
  exact (Array.getElem?_eq_some_iff.1 k1).1
end Propose
end Go.Proofs.YbulkcrfgGreatFmt
