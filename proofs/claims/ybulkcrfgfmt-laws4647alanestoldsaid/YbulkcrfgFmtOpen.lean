/-
  The arguments of the law opened: an array of three bytes; a slice of structs of three numbers.
-/
import Derived.Test.YbulkcrfgFmtKit
import Derived.OpenShut
import Derived.ShutString
import Derived.ChangeOld
import Derived.Deep.Slices
import Derived.Laws.IdiomArrays
namespace Go.Proofs.YbulkcrfgFmt
open Go.ChangeShapes Go.WideShapes Go.ChangeAt Go.RowKit
namespace Lanes

theorem cells5 : Ybaf.prog.cellsOf 5 = 1 := by kernel_rfl
theorem cells3 : Ybaf.prog.cellsOf 3 = 1 := by kernel_rfl
theorem cells22 : Ybaf.prog.cellsOf 22 = 1 := by kernel_rfl
theorem cells23 : Ybaf.prog.cellsOf 23 = 3 := by kernel_rfl
theorem cells54 : Ybaf.prog.cellsOf 54 = 3 := by kernel_rfl

section
variable {H : Type} {enc : TypeId × Value → H} {w : World} {base : Nat} {spare : Nat → Bool} {held : Bool}

theorem nat_of_u8 {n : Int} (h : (Lit.int .u8 n).wf = true) : ∃ m : Nat, n = m ∧ m < 256 := by
  have := bounds_u8 h
  exact ⟨n.toNat, by omega, by omega⟩
theorem nat_of_u16 {n : Int} (h : (Lit.int .u16 n).wf = true) : ∃ m : Nat, n = m ∧ m < 65536 := by
  have := bounds_u16 h
  exact ⟨n.toNat, by omega, by omega⟩

theorem okWide_array {P : Program} {r : Reach} {b0 : Nat} {t e : TypeId} {n : Nat} {v : Value} (ht : P.underlying t = some (.array n e)) (h : Value.okWide P w r b0 t v) : ∃ cs, v = .agg cs ∧ cs.size = P.cellsOf t := by
  unfold Value.okWide at h
  rw [ht] at h
  obtain ⟨cs, h1, h2, _⟩ := h
  exact ⟨cs, h1, h2⟩
set_option maxRecDepth 100000 in
theorem open_mul {r : Reach} {b0 : Nat} {v : Value} {d : DataW H} {ps : List MemPlace} (hval : Value.okWide Ybaf.prog w r b0 23 v) (hd : DataW.Trod enc Ybaf.prog w base spare held 23 v d ps) :
    ∃ m : Nat → Nat, (∀ i, m i < 256) ∧ v = .agg #[.int .u8 (m 0), .int .u8 (m 1), .int .u8 (m 2)] := by
  obtain ⟨cs, rfl, hsz⟩ := okWide_array Ybaf.underlying23 hval
  rw [cells23] at hsz
  obtain ⟨c0, c1, c2, rfl⟩ : ∃ c0 c1 c2, cs = #[c0, c1, c2] := by
    rcases cs with ⟨l⟩
    match l, hsz with
    | [a, b, c], _ => exact ⟨a, b, c, rfl⟩
  obtain ⟨fuel, hf⟩ := hd
  have hf' : DataW.trod enc Ybaf.prog w base spare held fuel 23 [c0, c1, c2] = some (d, ps) := by simpa [Value.cells] using hf
  obtain ⟨y0, y1, y2, n, _, h0, h1, h2⟩ := trod_array3 Ybaf.underlying23 cells5 hf'
  obtain ⟨n0, e0, _, w0⟩ := DataW.trod_int Ybaf.underlying5 h0
  obtain ⟨n1, e1, _, w1⟩ := DataW.trod_int Ybaf.underlying5 h1
  obtain ⟨n2, e2, _, w2⟩ := DataW.trod_int Ybaf.underlying5 h2
  injection e0 with e0
  injection e1 with e1
  injection e2 with e2
  subst e0 e1 e2
  obtain ⟨m0, rfl, b0⟩ := nat_of_u8 w0
  obtain ⟨m1, rfl, b1⟩ := nat_of_u8 w1
  obtain ⟨m2, rfl, b2⟩ := nat_of_u8 w2
  refine ⟨fun i => if i = 0 then m0 else if i = 1 then m1 else m2, fun i => ?_, rfl⟩
  dsimp only
  split
  · exact b0
  · split
    · exact b1
    · exact b2

theorem cells3_of {a : Addr} {cs : List Value} (h : w.cells? base a 3 = some cs) : ∃ c0 c1 c2, cs = [c0, c1, c2] ∧ w.cell? (a.add 0) = some c0 ∧ w.cell? (a.add 1) = some c1 ∧ w.cell? (a.add 2) = some c2 := by
  unfold World.cells? at h
  split at h
  · have r3 : List.range 3 = [0, 1, 2] := rfl
    rw [r3] at h
    cases h0 : w.cell? (a.add 0) with
    | none => simp [h0] at h
    | some c0 =>
      cases h1 : w.cell? (a.add 1) with
      | none => simp [h0, h1] at h
      | some c1 =>
        cases h2 : w.cell? (a.add 2) with
        | none => simp [h0, h1, h2] at h
        | some c2 =>
          simp [h0, h1, h2] at h
          exact ⟨c0, c1, c2, h.symm, rfl, rfl, rfl⟩
  · cases h

structure Op3 where
  P : Nat
  I : Nat
  D : Int
instance : Inhabited Op3 := ⟨⟨0, 0, 0⟩⟩

theorem open_op {n : Nat} {cs : List Value} {x : DataW H × List MemPlace} (h : DataW.trod enc Ybaf.prog w base spare held n 54 cs = some x) {c0 c1 c2 : Value} (hc : cs = [c0, c1, c2]) :
    ∃ o : Op3, o.P < 65536 ∧ o.I < 256 ∧ c0 = .int .u16 o.P ∧ c1 = .int .u8 o.I ∧ c2 = .int .i64 o.D := by
  subst hc
  obtain ⟨xs, m, _, _, _, hl, hf⟩ := DataW.trod_struct Ybaf.underlying54 h
  have g0 := hf 0 _ rfl
  have g1 := hf 1 _ rfl
  have g2 := hf 2 _ rfl
  have hl3 : xs.length = 3 := hl
  rw [List.getElem?_eq_getElem (by omega)] at g0 g1 g2
  obtain ⟨n0, e0, _, w0⟩ := DataW.trod_int Ybaf.underlying22 g0
  obtain ⟨n1, e1, _, w1⟩ := DataW.trod_int Ybaf.underlying5 g1
  obtain ⟨n2, e2, _, w2⟩ := DataW.trod_int Ybaf.underlying3 g2
  simp [cells22, cells5, cells3] at e0 e1 e2
  obtain ⟨m0, rfl, b0⟩ := nat_of_u16 w0
  obtain ⟨m1, rfl, b1⟩ := nat_of_u8 w1
  exact ⟨⟨m0, m1, n2⟩, b0, b1, e0, e1, e2⟩

theorem open_ops {ao : Option Addr} {len cap : Nat} {d : DataW H} {ps : List MemPlace} (hd : DataW.Trod enc Ybaf.prog w base spare held 24 (.slice ao len cap) d ps) :
    ∃ o : Nat → Op3, (∀ i, (o i).P < 65536) ∧ (∀ i, (o i).I < 256) ∧ (1 ≤ len → ∃ b off, ao = some ⟨b, off, none⟩ ∧ b < w.heap.size ∧ ∀ i, i < len → w.cell? ⟨b, off + i * 3, none⟩ = some (.int .u16 (o i).P) ∧ w.cell? ⟨b, off + i * 3 + 1, none⟩ = some (.int .u8 (o i).I) ∧ w.cell? ⟨b, off + i * 3 + 2, none⟩ = some (.int .i64 (o i).D)) := by
  obtain ⟨fuel, hf⟩ := hd
  have hf' : DataW.trod enc Ybaf.prog w base spare held fuel 24 [.slice ao len cap] = some (d, ps) := by simpa [Value.cells] using hf
  rcases Deep.open_slice Ybaf.underlying24 hf' with ⟨h, _⟩ | ⟨a, len', cap', m, n, D, Pl, h, _, hl, _, hm, _, hall⟩
  · simp at h
    exact ⟨fun _ => ⟨0, 0, 0⟩, fun _ => Nat.zero_lt_succ _, fun _ => Nat.zero_lt_succ _, fun h1 => by omega⟩
  · simp at h
    obtain ⟨rfl, rfl, rfl⟩ := h
    have hlm : len ≤ m := by rw [hm]; split <;> omega
    have key : ∀ i, i < len → ∃ o : Op3, o.P < 65536 ∧ o.I < 256 ∧ w.cell? (a.add (i * 3)) = some (.int .u16 o.P) ∧ w.cell? ((a.add (i * 3)).add 1) = some (.int .u8 o.I) ∧ w.cell? ((a.add (i * 3)).add 2) = some (.int .i64 o.D) := by
      intro i hi
      obtain ⟨cs', hc, ht⟩ := hall i (by omega)
      rw [cells54] at hc
      obtain ⟨c0, c1, c2, e, h0, h1, h2⟩ := cells3_of hc
      obtain ⟨o, b0, b1, rfl, rfl, rfl⟩ := open_op ht e
      exact ⟨o, b0, b1, h0, h1, h2⟩
    obtain ⟨o, ho⟩ := Deep.choose_lt key
    refine ⟨fun i => if i < len then o i else ⟨0, 0, 0⟩, fun i => ?_, fun i => ?_, fun h1 => ?_⟩
    · dsimp only
      split
      · rename_i h; exact (ho i h).1
      · decide
    · dsimp only
      split
      · rename_i h; exact (ho i h).2.1
      · decide
    · obtain ⟨b, off, spot⟩ := a
      have hspot : spot = none := by simpa [Addr.add] using World.cell?_spot (ho 0 (by omega)).2.2.1
      subst hspot
      have h0 := (ho 0 (by omega)).2.2.1
      rw [add_plain] at h0
      refine ⟨b, off, rfl, World.block_lt_of_cell? w _ h0, fun i hi => ?_⟩
      obtain ⟨_, _, g0, g1, g2⟩ := ho i hi
      rw [add_plain] at g0 g1 g2
      rw [add_plain] at g1 g2
      simp only [if_pos hi]
      exact ⟨g0, g1, g2⟩
end
end Lanes
end Go.Proofs.YbulkcrfgFmt
