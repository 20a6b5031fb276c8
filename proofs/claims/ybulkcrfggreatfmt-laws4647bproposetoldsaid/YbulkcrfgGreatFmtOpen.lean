/-
  The arguments of the law opened: a slice of structs of two bytes, a slice of bytes and a bool.
-/
import Derived.Test.YbulkcrfgGreatFmtKit
import Derived.OpenShut
import Derived.ShutString
import Derived.ChangeOld
import Derived.Deep.Slices
import Derived.Laws.IdiomArrays
namespace Go.Proofs.YbulkcrfgGreatFmt
open Go.ChangeShapes Go.WideShapes Go.ChangeAt Go.RowKit
namespace Arg

theorem cells4 : Ybaz.prog.cellsOf 4 = 1 := by kernel_rfl
theorem cells5 : Ybaz.prog.cellsOf 5 = 1 := by kernel_rfl
theorem cells23 : Ybaz.prog.cellsOf 23 = 1 := by kernel_rfl
theorem cells25 : Ybaz.prog.cellsOf 25 = 4 := by kernel_rfl

section
variable {H : Type} {enc : TypeId × Value → H} {w : World} {base : Nat} {spare : Nat → Bool} {held : Bool}

theorem nat_of_u8 {n : Int} (h : (Lit.int .u8 n).wf = true) : ∃ m : Nat, n = m ∧ m < 256 := by
  have := bounds_u8 h
  exact ⟨n.toNat, by omega, by omega⟩

theorem cells1_of {a : Addr} {cs : List Value} (h : w.cells? base a 1 = some cs) : ∃ c0, cs = [c0] ∧ w.cell? (a.add 0) = some c0 := by
  unfold World.cells? at h
  split at h
  · have r1 : List.range 1 = [0] := rfl
    rw [r1] at h
    cases h0 : w.cell? (a.add 0) with
    | none => simp [h0] at h
    | some c0 =>
      simp [h0] at h
      exact ⟨c0, h.symm, rfl⟩
  · cases h
theorem cells4_of {a : Addr} {cs : List Value} (h : w.cells? base a 4 = some cs) : ∃ c0 c1 c2 c3, cs = [c0, c1, c2, c3] ∧ w.cell? (a.add 0) = some c0 ∧ w.cell? (a.add 1) = some c1 ∧ w.cell? (a.add 2) = some c2 ∧ w.cell? (a.add 3) = some c3 := by
  unfold World.cells? at h
  split at h
  · have r3 : List.range 4 = [0, 1, 2, 3] := rfl
    rw [r3] at h
    cases h0 : w.cell? (a.add 0) with
    | none => simp [h0] at h
    | some c0 =>
      cases h1 : w.cell? (a.add 1) with
      | none => simp [h0, h1] at h
      | some c1 =>
        cases h2 : w.cell? (a.add 2) with
        | none => simp [h0, h1, h2] at h
        | some c2 =>
          cases h3 : w.cell? (a.add 3) with
          | none => simp [h0, h1, h2, h3] at h
          | some c3 =>
            simp [h0, h1, h2, h3] at h
            exact ⟨c0, c1, c2, c3, h.symm, rfl, rfl, rfl, rfl⟩
  · cases h

/-- The slice va, of vn bytes, holds x 0, x 1, .. -/
def Bytes (w : World) (va : Option Addr) (vn : Nat) (x : Nat → Nat) : Prop :=
  (∀ i, x i < 256) ∧ (1 ≤ vn → ∃ b off, va = some ⟨b, off, none⟩ ∧ b < w.heap.size ∧ ∀ i, i < vn → w.cell? ⟨b, off + i, none⟩ = some (.int .u8 (x i : Int)))

theorem open_bytes {fuel : Nat} {c : Value} {y : DataW H × List MemPlace} (hf' : DataW.trod enc Ybaz.prog w base spare held fuel 23 [c] = some y) :
    ∃ va vn vc x, c = .slice va vn vc ∧ Bytes w va vn x := by
  rcases Deep.open_slice Ybaz.underlying23 hf' with ⟨h, _⟩ | ⟨a, len, cap, m, n, D, Pl, h, _, hl, _, hm, _, hall⟩
  · simp at h
    exact ⟨none, 0, 0, fun _ => 0, h, fun _ => Nat.zero_lt_succ _, fun h1 => by omega⟩
  · simp at h
    subst h
    have hlm : len ≤ m := by rw [hm]; split <;> omega
    have key : ∀ i, i < len → ∃ o : Nat, o < 256 ∧ w.cell? (a.add (i * 1)) = some (.int .u8 (o : Int)) := by
      intro i hi
      obtain ⟨cs', hc, ht⟩ := hall i (by omega)
      rw [cells5] at hc
      obtain ⟨c0, e, h0⟩ := cells1_of hc
      subst e
      obtain ⟨n0, e0, _, w0⟩ := DataW.trod_int Ybaz.underlying5 ht
      obtain ⟨m0, rfl, b0⟩ := nat_of_u8 w0
      injection e0 with e0
      subst e0
      exact ⟨m0, b0, h0⟩
    obtain ⟨o, ho⟩ := Deep.choose_lt key
    refine ⟨some a, len, cap, fun i => if i < len then o i else 0, rfl, fun i => ?_, fun h1 => ?_⟩
    · dsimp only
      split
      · rename_i h; exact (ho i h).1
      · decide
    · obtain ⟨b, off, spot⟩ := a
      have hspot : spot = none := by simpa [Addr.add] using World.cell?_spot (ho 0 (by omega)).2
      subst hspot
      have h0 := (ho 0 (by omega)).2
      rw [add_plain] at h0
      refine ⟨b, off, rfl, World.block_lt_of_cell? w _ h0, fun i hi => ?_⟩
      have g0 := (ho i hi).2
      rw [add_plain, Nat.mul_one] at g0
      simp only [if_pos hi]
      exact g0

/-- One list as it was handed in. -/
structure Rl where
  f : Nat
  l : Nat
  va : Option Addr
  vn : Nat
  vc : Nat
  al : Bool
  x : Nat → Nat
instance : Inhabited Rl := ⟨⟨0, 0, none, 0, 0, false, fun _ => 0⟩⟩

theorem open_one {n : Nat} {cs : List Value} {y : DataW H × List MemPlace} (h : DataW.trod enc Ybaz.prog w base spare held n 25 cs = some y) {c0 c1 c2 c3 : Value} (hc : cs = [c0, c1, c2, c3]) :
    ∃ o : Rl, o.f < 256 ∧ o.l < 256 ∧ Bytes w o.va o.vn o.x ∧ c0 = .int .u8 o.f ∧ c1 = .int .u8 o.l ∧ c2 = .slice o.va o.vn o.vc ∧ c3 = .bool o.al := by
  subst hc
  obtain ⟨xs, m, _, _, _, hl, hf⟩ := DataW.trod_struct Ybaz.underlying25 h
  have g0 := hf 0 _ rfl
  have g1 := hf 1 _ rfl
  have g2 := hf 2 _ rfl
  have g3 := hf 3 _ rfl
  have hl4 : xs.length = 4 := hl
  rw [List.getElem?_eq_getElem (by omega)] at g0 g1 g2 g3
  obtain ⟨n0, e0, _, w0⟩ := DataW.trod_int Ybaz.underlying5 g0
  obtain ⟨n1, e1, _, w1⟩ := DataW.trod_int Ybaz.underlying5 g1
  simp [cells5] at e0 e1
  have g2' : DataW.trod enc Ybaz.prog w base spare held m 23 [c2] = some xs[2] := by
    rw [← g2]
    simp [cells23]
  obtain ⟨va, vn, vc, x, e2, hx⟩ := open_bytes (c := c2) g2'
  obtain ⟨b, e3, _⟩ := DataW.trod_bool Ybaz.underlying4 g3
  simp [cells4] at e3
  obtain ⟨m0, rfl, b0⟩ := nat_of_u8 w0
  obtain ⟨m1, rfl, b1⟩ := nat_of_u8 w1
  exact ⟨⟨m0, m1, va, vn, vc, b, x⟩, b0, b1, hx, e0, e1, e2, e3⟩

/-- Block and place of the law's argument: n lists o 0, o 1, .. -/
def Raw (w : World) (ao : Option Addr) (n : Nat) (o : Nat → Rl) : Prop :=
  (∀ i, (o i).f < 256 ∧ (o i).l < 256 ∧ Bytes w (o i).va (o i).vn (o i).x) ∧
  (1 ≤ n → ∃ b off, ao = some ⟨b, off, none⟩ ∧ b < w.heap.size ∧ ∀ i, i < n → w.cell? ⟨b, off + i * 4, none⟩ = some (.int .u8 ((o i).f : Int)) ∧ w.cell? ⟨b, off + i * 4 + 1, none⟩ = some (.int .u8 ((o i).l : Int)) ∧ w.cell? ⟨b, off + i * 4 + 2, none⟩ = some (.slice (o i).va (o i).vn (o i).vc) ∧ w.cell? ⟨b, off + i * 4 + 3, none⟩ = some (.bool (o i).al))

theorem open_raw {ao : Option Addr} {len cap : Nat} {d : DataW H} {ps : List MemPlace} (hd : DataW.Trod enc Ybaz.prog w base spare held 22 (.slice ao len cap) d ps) : ∃ o, Raw w ao len o := by
  obtain ⟨fuel, hf⟩ := hd
  have hf' : DataW.trod enc Ybaz.prog w base spare held fuel 22 [.slice ao len cap] = some (d, ps) := by simpa [Value.cells] using hf
  have hdef : ∀ w : World, Bytes w none 0 (fun _ => 0) := fun w => ⟨fun _ => Nat.zero_lt_succ _, fun h => by omega⟩
  rcases Deep.open_slice Ybaz.underlying22 hf' with ⟨h, _⟩ | ⟨a, len', cap', m, n, D, Pl, h, _, hl, _, hm, _, hall⟩
  · simp at h
    exact ⟨fun _ => default, fun _ => ⟨Nat.zero_lt_succ _, Nat.zero_lt_succ _, hdef w⟩, fun h1 => by omega⟩
  · simp at h
    obtain ⟨rfl, rfl, rfl⟩ := h
    have hlm : len ≤ m := by rw [hm]; split <;> omega
    have key : ∀ i, i < len → ∃ o : Rl, (o.f < 256 ∧ o.l < 256 ∧ Bytes w o.va o.vn o.x) ∧ w.cell? (a.add (i * 4)) = some (.int .u8 o.f) ∧ w.cell? ((a.add (i * 4)).add 1) = some (.int .u8 o.l) ∧ w.cell? ((a.add (i * 4)).add 2) = some (.slice o.va o.vn o.vc) ∧ w.cell? ((a.add (i * 4)).add 3) = some (.bool o.al) := by
      intro i hi
      obtain ⟨cs', hc, ht⟩ := hall i (by omega)
      rw [cells25] at hc
      obtain ⟨c0, c1, c2, c3, e, h0, h1, h2, h3⟩ := cells4_of hc
      obtain ⟨o, b0, b1, hb, rfl, rfl, rfl, rfl⟩ := open_one ht e
      exact ⟨o, ⟨b0, b1, hb⟩, h0, h1, h2, h3⟩
    obtain ⟨o, ho⟩ := Deep.choose_lt key
    refine ⟨fun i => if i < len then o i else default, fun i => ?_, fun h1 => ?_⟩
    · dsimp only
      split
      · rename_i h; exact (ho i h).1
      · exact ⟨Nat.zero_lt_succ _, Nat.zero_lt_succ _, hdef w⟩
    · obtain ⟨b, off, spot⟩ := a
      have hspot : spot = none := by simpa [Addr.add] using World.cell?_spot (ho 0 (by omega)).2.1
      subst hspot
      have h0 := (ho 0 (by omega)).2.1
      rw [add_plain] at h0
      refine ⟨b, off, rfl, World.block_lt_of_cell? w _ h0, fun i hi => ?_⟩
      obtain ⟨_, g0, g1, g2, g3⟩ := ho i hi
      rw [add_plain] at g0 g1 g2 g3
      rw [add_plain] at g1 g2 g3
      simp only [if_pos hi]
      exact ⟨g0, g1, g2, g3⟩
end
end Arg
end Go.Proofs.YbulkcrfgGreatFmt
