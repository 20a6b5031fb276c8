/-
  The tables of newOrder (held, holders, below, above): cells that hold slices of ints, each with a row of its own; 'append' at one of them.
-/
import Derived.Test.YbulkcrmgIndex
import Derived.Maps.AppendAt
namespace Go.Proofs.Ybulkcrmg
open Go.RowKit
namespace Order
open Kit

abbrev num (k : Nat) : Value := .int .i64 (k : Int)

/-- N cells, cell j at block (ad j).1, offset (ad j).2, below n₀; cell j holds a slice that owns the numbers zs j; no two own one row. -/
structure Tabs (W : World) (n₀ N : Nat) (ad : Nat → Nat × Nat) (zs : Nat → List Nat) (val : Nat → Value) : Prop where
  cell : ∀ j, j < N → W.cell? ⟨(ad j).1, (ad j).2, none⟩ = some (val j)
  frozen : ∀ j, j < N → W.frozen? ⟨(ad j).1, (ad j).2, none⟩ = false
  low : ∀ j, j < N → (ad j).1 < n₀
  own : ∀ j, j < N → W.ownsRow n₀ 3 1 (val j) (zs j).length ((zs j).map num)
  apart : ∀ i j, i < N → j < N → i ≠ j → ∀ b, (val i).ownBlock = some b → (val j).ownBlock ≠ some b
  inj : ∀ i j, i < N → j < N → ad i = ad j → i = j
  size : n₀ ≤ W.heap.size

theorem own3 {w : World} {n₀ k : Nat} {cv : Value} {cs : List Value} (h : w.ownsRow n₀ 3 1 cv k cs) {b : Nat} (hb : cv.ownBlock = some b) : n₀ ≤ b ∧ b < w.heap.size := by
  rcases h.2 with ⟨rfl, _⟩ | ⟨g, cap, cur, rfl, hg, hc, _⟩
  · simp [Value.ownBlock] at hb
  · obtain rfl : g = b := by simpa [Value.ownBlock] using hb
    exact ⟨hg, (Array.getElem?_eq_some_iff.1 hc).1⟩

/-- The world below X, and whatever the tables own, as it was: the tables are as they were. -/
theorem Tabs.kept {W W' : World} {n₀ N : Nat} {ad : Nat → Nat × Nat} {zs : Nat → List Nat} {val : Nat → Value} {row : Option Nat} (h : Tabs W n₀ N ad zs val) (hg : W.grownBy W' row) (h1 : ∀ j, j < N → some (ad j).1 ≠ row) (h2 : ∀ j, j < N → (val j).ownBlock = none ∨ (val j).ownBlock ≠ row) : Tabs W' n₀ N ad zs val := by
  have hbl : ∀ j, j < N → W'.heap[(ad j).1]? = W.heap[(ad j).1]? := fun j hj => hg.block _ (Nat.lt_of_lt_of_le (h.low j hj) h.size) (h1 j hj)
  exact ⟨fun j hj => (World.cell?_of_block (w := W) (hbl j hj)).trans (h.cell j hj), fun j hj => (World.frozen?_of_block (w := W) (hbl j hj)).trans (h.frozen j hj), h.low, fun j hj => (h.own j hj).kept hg (h2 j hj), h.apart, h.inj, Nat.le_trans h.size hg.size⟩
theorem Tabs.alloc {W : World} {n₀ N : Nat} {ad : Nat → Nat × Nat} {zs : Nat → List Nat} {val : Nat → Value} (h : Tabs W n₀ N ad zs val) (o : Obj) : Tabs (W.alloc o) n₀ N ad zs val := h.kept (World.grownBy_alloc W o none) (fun _ _ => by simp) (fun j _ => by cases (val j).ownBlock <;> simp)
theorem Tabs.drew {W : World} {n₀ N : Nat} {ad : Nat → Nat × Nat} {zs : Nat → List Nat} {val : Nat → Value} (h : Tabs W n₀ N ad zs val) : Tabs W.drew n₀ N ad zs val := ⟨h.cell, h.frozen, h.low, h.own, h.apart, h.inj, h.size⟩

/-- One number behind row j. -/
def snoc (zs : Nat → List Nat) (j x : Nat) : Nat → List Nat := fun i => if i = j then zs j ++ [x] else zs i
def setV (val : Nat → Value) (j : Nat) (v : Value) : Nat → Value := fun i => if i = j then v else val i

/-- **'t[i] = append(t[i], x)': behind the append's two words, and the store back.** -/
theorem Tabs.appended {W w1 : World} {n₀ N : Nat} {ad : Nat → Nat × Nat} {zs : Nat → List Nat} {val : Nat → Value} {j x : Nat} {v' : Value} (h : Tabs W n₀ N ad zs val) (hj : j < N)
    (hown : w1.ownsRow n₀ 3 1 v' ((zs j).length + 1) ((zs j).map num ++ [num x])) (hg : W.grownBy w1 (val j).ownBlock) (hl : v'.ownBlock = (val j).ownBlock ∨ v'.ownBlock = some W.heap.size) :
    Tabs (w1.setCell ⟨(ad j).1, (ad j).2, none⟩ v') n₀ N ad (snoc zs j x) (setV val j v') := by
  have hn : ∀ b, (val j).ownBlock = some b → n₀ ≤ b := fun b hb => (own3 (h.own j hj) hb).1
  have hbl : ∀ i, i < N → w1.heap[(ad i).1]? = W.heap[(ad i).1]? := fun i hi => hg.block _ (Nat.lt_of_lt_of_le (h.low i hi) h.size) (fun e => by have := hn _ e.symm; have := h.low i hi; omega)
  have hc1 : ∀ i, i < N → w1.cell? ⟨(ad i).1, (ad i).2, none⟩ = some (val i) := fun i hi => (World.cell?_of_block (w := W) (hbl i hi)).trans (h.cell i hi)
  have hf1 : ∀ i, i < N → w1.frozen? ⟨(ad i).1, (ad i).2, none⟩ = false := fun i hi => (World.frozen?_of_block (w := W) (hbl i hi)).trans (h.frozen i hi)
  have hadne : ∀ i, i < N → i ≠ j → ad i ≠ ad j := fun i hi e e2 => e (h.inj i j hi hj e2)
  have hO : Only (ad j).1 w1 (w1.setCell ⟨(ad j).1, (ad j).2, none⟩ v') := (Only.refl _ w1).setCell _ _
  have hgO : w1.grownBy (w1.setCell ⟨(ad j).1, (ad j).2, none⟩ v') (some (ad j).1) := ⟨hO.os, hO.tape, hO.output, by rw [hO.size]; exact Nat.le_refl _, fun k _ hk => hO.block k (fun e => hk (by rw [e]))⟩
  have hlow := h.low j hj
  have off : ∀ {v : Value} {k : Nat} {cs : List Value}, w1.ownsRow n₀ 3 1 v k cs → v.ownBlock = none ∨ v.ownBlock ≠ some (ad j).1 := fun hv => .inr fun e => by have := (own3 hv e).1; omega
  refine ⟨fun i hi => ?_, fun i hi => ?_, h.low, fun i hi => ?_, fun i k hi hk e b hb hb2 => ?_, h.inj, ?_⟩
  · unfold setV
    by_cases e : i = j
    · subst e
      rw [if_pos rfl]
      exact World.cell?_setCell_same' _ _ _ (by rw [hc1 i hi]; rfl)
    · rw [if_neg e]
      have hne : (⟨(ad j).1, (ad j).2, none⟩ : Addr) ≠ ⟨(ad i).1, (ad i).2, none⟩ := fun e2 => by
        injection e2 with e3 e4
        exact hadne i hi e (Prod.ext e3.symm e4.symm)
      exact (World.cell?_setCell_other w1 _ _ _ hne).trans (hc1 i hi)
  · rw [World.frozen?_setCell]
    exact hf1 i hi
  · unfold snoc setV
    by_cases e : i = j
    · subst e
      rw [if_pos rfl, if_pos rfl, List.length_append, List.map_append]
      exact hown.kept hgO (off hown)
    · rw [if_neg e, if_neg e]
      have h1 : w1.ownsRow n₀ 3 1 (val i) (zs i).length ((zs i).map num) := (h.own i hi).kept hg (by
        rcases hb : (val i).ownBlock with _ | b
        · exact .inl rfl
        · exact .inr (fun e2 => h.apart i j hi hj e b hb e2.symm))
      exact h1.kept hgO (off h1)
  · unfold setV at hb hb2
    by_cases e1 : i = j
    · subst e1
      rw [if_pos rfl] at hb
      rw [if_neg (fun e2 => e e2.symm)] at hb2
      rcases hl with hl | hl
      · exact h.apart i k hi hk e b (hl ▸ hb) hb2
      · have := (own3 (h.own k hk) hb2).2
        rw [hl] at hb; cases hb; omega
    · rw [if_neg e1] at hb
      by_cases e2 : k = j
      · subst e2
        rw [if_pos rfl] at hb2
        rcases hl with hl | hl
        · exact h.apart i k hi hk e b hb (hl ▸ hb2)
        · have := (own3 (h.own i hi) hb).2
          rw [hl] at hb2; cases hb2; omega
      · rw [if_neg e2] at hb2
        exact h.apart i k hi hk e b hb hb2
  · rw [hO.size]; exact Nat.le_trans h.size hg.size
end Order
end Go.Proofs.Ybulkcrmg
