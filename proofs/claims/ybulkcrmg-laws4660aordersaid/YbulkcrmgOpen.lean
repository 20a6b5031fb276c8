/-
  The arguments of the law opened: a slice of bytes, two slices of structs of bytes.
-/
import Derived.Test.YbulkcrmgKit
import Derived.OpenShut
import Derived.ShutString
import Derived.ChangeOld
import Derived.Deep.Slices
import Derived.Laws.IdiomArrays
namespace Go.Proofs.Ybulkcrmg
open Go.ChangeShapes Go.WideShapes Go.ChangeAt Go.RowKit
namespace Open

theorem cells5 : Yba.prog.cellsOf 5 = 1 := by kernel_rfl
theorem cells41 : Yba.prog.cellsOf 41 = 2 := by kernel_rfl
theorem cells46 : Yba.prog.cellsOf 46 = 3 := by kernel_rfl

section
variable {H : Type} {enc : TypeId × Value → H} {w : World} {base : Nat} {spare : Nat → Bool} {held : Bool}

theorem nat_of_u8 {n : Int} (h : (Lit.int .u8 n).wf = true) : ∃ m : Nat, n = m ∧ m < 256 := by
  have := bounds_u8 h
  exact ⟨n.toNat, by omega, by omega⟩

theorem cells1_of {a : Addr} {cs : List Value} (h : w.cells? base a 1 = some cs) : ∃ c0, cs = [c0] ∧ w.cell? (a.add 0) = some c0 := by
  unfold World.cells? at h
  split at h
  · have r1 : List.range 1 = [0] := rfl
    rw [r1] at h
    cases h0 : w.cell? (a.add 0) with
    | none => simp [h0] at h
    | some c0 =>
      simp [h0] at h
      exact ⟨c0, h.symm, rfl⟩
  · cases h
theorem cells2_of {a : Addr} {cs : List Value} (h : w.cells? base a 2 = some cs) : ∃ c0 c1, cs = [c0, c1] ∧ w.cell? (a.add 0) = some c0 ∧ w.cell? (a.add 1) = some c1 := by
  unfold World.cells? at h
  split at h
  · have r2 : List.range 2 = [0, 1] := rfl
    rw [r2] at h
    cases h0 : w.cell? (a.add 0) with
    | none => simp [h0] at h
    | some c0 =>
      cases h1 : w.cell? (a.add 1) with
      | none => simp [h0, h1] at h
      | some c1 =>
        simp [h0, h1] at h
        exact ⟨c0, c1, h.symm, rfl, rfl⟩
  · cases h
theorem cells3_of {a : Addr} {cs : List Value} (h : w.cells? base a 3 = some cs) : ∃ c0 c1 c2, cs = [c0, c1, c2] ∧ w.cell? (a.add 0) = some c0 ∧ w.cell? (a.add 1) = some c1 ∧ w.cell? (a.add 2) = some c2 := by
  unfold World.cells? at h
  split at h
  · have r3 : List.range 3 = [0, 1, 2] := rfl
    rw [r3] at h
    cases h0 : w.cell? (a.add 0) with
    | none => simp [h0] at h
    | some c0 =>
      cases h1 : w.cell? (a.add 1) with
      | none => simp [h0, h1] at h
      | some c1 =>
        cases h2 : w.cell? (a.add 2) with
        | none => simp [h0, h1, h2] at h
        | some c2 =>
          simp [h0, h1, h2] at h
          exact ⟨c0, c1, c2, h.symm, rfl, rfl, rfl⟩
  · cases h

theorem open_two {n : Nat} {cs : List Value} {x : DataW H × List MemPlace} (h : DataW.trod enc Yba.prog w base spare held n 41 cs = some x) {c0 c1 : Value} (hc : cs = [c0, c1]) :
    ∃ o : Nat × Nat, o.1 < 256 ∧ o.2 < 256 ∧ c0 = .int .u8 o.1 ∧ c1 = .int .u8 o.2 := by
  subst hc
  obtain ⟨xs, m, _, _, _, hl, hf⟩ := DataW.trod_struct Yba.underlying41 h
  have g0 := hf 0 _ rfl
  have g1 := hf 1 _ rfl
  have hl2 : xs.length = 2 := hl
  rw [List.getElem?_eq_getElem (by omega)] at g0 g1
  obtain ⟨n0, e0, _, w0⟩ := DataW.trod_int Yba.underlying5 g0
  obtain ⟨n1, e1, _, w1⟩ := DataW.trod_int Yba.underlying5 g1
  simp [cells5] at e0 e1
  obtain ⟨m0, rfl, b0⟩ := nat_of_u8 w0
  obtain ⟨m1, rfl, b1⟩ := nat_of_u8 w1
  exact ⟨(m0, m1), b0, b1, e0, e1⟩
theorem open_three {n : Nat} {cs : List Value} {x : DataW H × List MemPlace} (h : DataW.trod enc Yba.prog w base spare held n 46 cs = some x) {c0 c1 c2 : Value} (hc : cs = [c0, c1, c2]) :
    ∃ o : Nat × Nat × Nat, o.1 < 256 ∧ o.2.1 < 256 ∧ o.2.2 < 256 ∧ c0 = .int .u8 o.1 ∧ c1 = .int .u8 o.2.1 ∧ c2 = .int .u8 o.2.2 := by
  subst hc
  obtain ⟨xs, m, _, _, _, hl, hf⟩ := DataW.trod_struct Yba.underlying46 h
  have g0 := hf 0 _ rfl
  have g1 := hf 1 _ rfl
  have g2 := hf 2 _ rfl
  have hl3 : xs.length = 3 := hl
  rw [List.getElem?_eq_getElem (by omega)] at g0 g1 g2
  obtain ⟨n0, e0, _, w0⟩ := DataW.trod_int Yba.underlying5 g0
  obtain ⟨n1, e1, _, w1⟩ := DataW.trod_int Yba.underlying5 g1
  obtain ⟨n2, e2, _, w2⟩ := DataW.trod_int Yba.underlying5 g2
  simp [cells5] at e0 e1 e2
  obtain ⟨m0, rfl, b0⟩ := nat_of_u8 w0
  obtain ⟨m1, rfl, b1⟩ := nat_of_u8 w1
  obtain ⟨m2, rfl, b2⟩ := nat_of_u8 w2
  exact ⟨(m0, m1, m2), b0, b1, b2, e0, e1, e2⟩

theorem open_bytes {ao : Option Addr} {len cap : Nat} {d : DataW H} {ps : List MemPlace} (hd : DataW.Trod enc Yba.prog w base spare held 22 (.slice ao len cap) d ps) :
    ∃ o : Nat → Nat, (∀ i, o i < 256) ∧ (1 ≤ len → ∃ b off, ao = some ⟨b, off, none⟩ ∧ b < w.heap.size ∧ ∀ i, i < len → w.cell? ⟨b, off + i, none⟩ = some (.int .u8 (o i : Int))) := by
  obtain ⟨fuel, hf⟩ := hd
  have hf' : DataW.trod enc Yba.prog w base spare held fuel 22 [.slice ao len cap] = some (d, ps) := by simpa [Value.cells] using hf
  rcases Deep.open_slice Yba.underlying22 hf' with ⟨h, _⟩ | ⟨a, len', cap', m, n, D, Pl, h, _, hl, _, hm, _, hall⟩
  · simp at h
    exact ⟨fun _ => 0, fun _ => Nat.zero_lt_succ _, fun h1 => by omega⟩
  · simp at h
    obtain ⟨rfl, rfl, rfl⟩ := h
    have hlm : len ≤ m := by rw [hm]; split <;> omega
    have key : ∀ i, i < len → ∃ o : Nat, o < 256 ∧ w.cell? (a.add (i * 1)) = some (.int .u8 (o : Int)) := by
      intro i hi
      obtain ⟨cs', hc, ht⟩ := hall i (by omega)
      rw [cells5] at hc
      obtain ⟨c0, e, h0⟩ := cells1_of hc
      subst e
      obtain ⟨n0, e0, _, w0⟩ := DataW.trod_int Yba.underlying5 ht
      obtain ⟨m0, rfl, b0⟩ := nat_of_u8 w0
      injection e0 with e0
      subst e0
      exact ⟨m0, b0, h0⟩
    obtain ⟨o, ho⟩ := Deep.choose_lt key
    refine ⟨fun i => if i < len then o i else 0, fun i => ?_, fun h1 => ?_⟩
    · dsimp only
      split
      · rename_i h; exact (ho i h).1
      · decide
    · obtain ⟨b, off, spot⟩ := a
      have hspot : spot = none := by simpa [Addr.add] using World.cell?_spot (ho 0 (by omega)).2
      subst hspot
      have h0 := (ho 0 (by omega)).2
      rw [add_plain] at h0
      refine ⟨b, off, rfl, World.block_lt_of_cell? w _ h0, fun i hi => ?_⟩
      obtain ⟨_, g0⟩ := ho i hi
      rw [add_plain, Nat.mul_one] at g0
      simp only [if_pos hi]
      exact g0
theorem open_pairs {ao : Option Addr} {len cap : Nat} {d : DataW H} {ps : List MemPlace} (hd : DataW.Trod enc Yba.prog w base spare held 23 (.slice ao len cap) d ps) :
    ∃ o : Nat → Nat × Nat, (∀ i, (o i).1 < 256) ∧ (∀ i, (o i).2 < 256) ∧ (1 ≤ len → ∃ b off, ao = some ⟨b, off, none⟩ ∧ b < w.heap.size ∧ ∀ i, i < len → w.cell? ⟨b, off + i * 2, none⟩ = some (.int .u8 ((o i).1 : Int)) ∧ w.cell? ⟨b, off + i * 2 + 1, none⟩ = some (.int .u8 ((o i).2 : Int))) := by
  obtain ⟨fuel, hf⟩ := hd
  have hf' : DataW.trod enc Yba.prog w base spare held fuel 23 [.slice ao len cap] = some (d, ps) := by simpa [Value.cells] using hf
  rcases Deep.open_slice Yba.underlying23 hf' with ⟨h, _⟩ | ⟨a, len', cap', m, n, D, Pl, h, _, hl, _, hm, _, hall⟩
  · simp at h
    exact ⟨fun _ => (0, 0), fun _ => Nat.zero_lt_succ _, fun _ => Nat.zero_lt_succ _, fun h1 => by omega⟩
  · simp at h
    obtain ⟨rfl, rfl, rfl⟩ := h
    have hlm : len ≤ m := by rw [hm]; split <;> omega
    have key : ∀ i, i < len → ∃ o : Nat × Nat, o.1 < 256 ∧ o.2 < 256 ∧ w.cell? (a.add (i * 2)) = some (.int .u8 (o.1 : Int)) ∧ w.cell? ((a.add (i * 2)).add 1) = some (.int .u8 (o.2 : Int)) := by
      intro i hi
      obtain ⟨cs', hc, ht⟩ := hall i (by omega)
      rw [cells41] at hc
      obtain ⟨c0, c1, e, h0, h1⟩ := cells2_of hc
      obtain ⟨o, b0, b1, rfl, rfl⟩ := open_two ht e
      exact ⟨o, b0, b1, h0, h1⟩
    obtain ⟨o, ho⟩ := Deep.choose_lt key
    refine ⟨fun i => if i < len then o i else (0, 0), fun i => ?_, fun i => ?_, fun h1 => ?_⟩
    · dsimp only
      split
      · rename_i h; exact (ho i h).1
      · decide
    · dsimp only
      split
      · rename_i h; exact (ho i h).2.1
      · decide
    · obtain ⟨b, off, spot⟩ := a
      have hspot : spot = none := by simpa [Addr.add] using World.cell?_spot (ho 0 (by omega)).2.2.1
      subst hspot
      have h0 := (ho 0 (by omega)).2.2.1
      rw [add_plain] at h0
      refine ⟨b, off, rfl, World.block_lt_of_cell? w _ h0, fun i hi => ?_⟩
      obtain ⟨_, _, g0, g1⟩ := ho i hi
      rw [add_plain] at g0 g1
      rw [add_plain] at g1
      simp only [if_pos hi]
      exact ⟨g0, g1⟩
theorem open_triples {ao : Option Addr} {len cap : Nat} {d : DataW H} {ps : List MemPlace} (hd : DataW.Trod enc Yba.prog w base spare held 24 (.slice ao len cap) d ps) :
    ∃ o : Nat → Nat × Nat × Nat, (∀ i, (o i).1 < 256) ∧ (∀ i, (o i).2.1 < 256) ∧ (∀ i, (o i).2.2 < 256) ∧ (1 ≤ len → ∃ b off, ao = some ⟨b, off, none⟩ ∧ b < w.heap.size ∧ ∀ i, i < len → w.cell? ⟨b, off + i * 3, none⟩ = some (.int .u8 ((o i).1 : Int)) ∧ w.cell? ⟨b, off + i * 3 + 1, none⟩ = some (.int .u8 ((o i).2.1 : Int)) ∧ w.cell? ⟨b, off + i * 3 + 2, none⟩ = some (.int .u8 ((o i).2.2 : Int))) := by
  obtain ⟨fuel, hf⟩ := hd
  have hf' : DataW.trod enc Yba.prog w base spare held fuel 24 [.slice ao len cap] = some (d, ps) := by simpa [Value.cells] using hf
  rcases Deep.open_slice Yba.underlying24 hf' with ⟨h, _⟩ | ⟨a, len', cap', m, n, D, Pl, h, _, hl, _, hm, _, hall⟩
  · simp at h
    exact ⟨fun _ => (0, 0, 0), fun _ => Nat.zero_lt_succ _, fun _ => Nat.zero_lt_succ _, fun _ => Nat.zero_lt_succ _, fun h1 => by omega⟩
  · simp at h
    obtain ⟨rfl, rfl, rfl⟩ := h
    have hlm : len ≤ m := by rw [hm]; split <;> omega
    have key : ∀ i, i < len → ∃ o : Nat × Nat × Nat, o.1 < 256 ∧ o.2.1 < 256 ∧ o.2.2 < 256 ∧ w.cell? (a.add (i * 3)) = some (.int .u8 (o.1 : Int)) ∧ w.cell? ((a.add (i * 3)).add 1) = some (.int .u8 (o.2.1 : Int)) ∧ w.cell? ((a.add (i * 3)).add 2) = some (.int .u8 (o.2.2 : Int)) := by
      intro i hi
      obtain ⟨cs', hc, ht⟩ := hall i (by omega)
      rw [cells46] at hc
      obtain ⟨c0, c1, c2, e, h0, h1, h2⟩ := cells3_of hc
      obtain ⟨o, b0, b1, b2, rfl, rfl, rfl⟩ := open_three ht e
      exact ⟨o, b0, b1, b2, h0, h1, h2⟩
    obtain ⟨o, ho⟩ := Deep.choose_lt key
    refine ⟨fun i => if i < len then o i else (0, 0, 0), fun i => ?_, fun i => ?_, fun i => ?_, fun h1 => ?_⟩
    · dsimp only
      split
      · rename_i h; exact (ho i h).1
      · decide
    · dsimp only
      split
      · rename_i h; exact (ho i h).2.1
      · decide
    · dsimp only
      split
      · rename_i h; exact (ho i h).2.2.1
      · decide
    · obtain ⟨b, off, spot⟩ := a
      have hspot : spot = none := by simpa [Addr.add] using World.cell?_spot (ho 0 (by omega)).2.2.2.1
      subst hspot
      have h0 := (ho 0 (by omega)).2.2.2.1
      rw [add_plain] at h0
      refine ⟨b, off, rfl, World.block_lt_of_cell? w _ h0, fun i hi => ?_⟩
      obtain ⟨_, _, _, g0, g1, g2⟩ := ho i hi
      rw [add_plain] at g0 g1 g2
      rw [add_plain] at g1 g2
      simp only [if_pos hi]
      exact ⟨g0, g1, g2⟩
end
end Open
end Go.Proofs.Ybulkcrmg
