/-
  LawS4647BPropose: a row of lists (zzs4647bl, four cells each); the comparison.
-/
import Derived.Test.YbulkcrfgGreatFmtKit
import Derived.BigQuiet
import Derived.Deep.DeepCutAuto
import Derived.Deep.QuietTactic
import Derived.Deep.RegionHeld3
import Derived.WalkSmall
import Derived.RegionTactic
namespace Go.Proofs.YbulkcrfgGreatFmt
open Go.RowKit
namespace Propose
open Kit

abbrev num (k : Nat) : Value := .int .i64 (k : Int)
/-- One list of the law's: from, leader, vals, all. -/
structure El where
  f : Nat
  l : Nat
  va : Option Addr
  vn : Nat
  vc : Nat
  al : Bool
abbrev El.v (x : El) : Value := .slice x.va x.vn x.vc
abbrev El.agg (x : El) : Value := .agg #[num x.f, num x.l, .slice x.va x.vn x.vc, .bool x.al]

/-- Block g holds the lists e 0, .., e (n - 1). -/
def Arr (W : World) (g n : Nat) (e : Nat → El) : Prop :=
  ∃ cs, Row W g 29 cs ∧ ∀ i, i < n → cs[i * 4]? = some (num (e i).f) ∧ cs[i * 4 + 1]? = some (num (e i).l) ∧ cs[i * 4 + 2]? = some (e i).v ∧ cs[i * 4 + 3]? = some (.bool (e i).al)
def upd (e : Nat → El) (i : Nat) (x : El) : Nat → El := fun j => if j = i then x else e j
def swp (e : Nat → El) (i j : Nat) : Nat → El := upd (upd e i (e j)) j (e i)

/-- Outside block g the world W' is as W was; it may have grown. -/
structure Gw (g : Nat) (W W' : World) : Prop where
  os : W'.os = W.os
  tape : W'.tape = W.tape
  output : W'.output = W.output
  size : W.heap.size ≤ W'.heap.size
  block : ∀ k, k < W.heap.size → k ≠ g → W'.heap[k]? = W.heap[k]?
theorem Gw.refl (g : Nat) (W : World) : Gw g W W := ⟨rfl, rfl, rfl, Nat.le_refl _, fun _ _ _ => rfl⟩
theorem Gw.trans {g : Nat} {u v w : World} (h : Gw g u v) (k : Gw g v w) : Gw g u w :=
  ⟨k.os.trans h.os, k.tape.trans h.tape, k.output.trans h.output, Nat.le_trans h.size k.size, fun i hi hg => (k.block i (Nat.lt_of_lt_of_le hi h.size) hg).trans (h.block i hi hg)⟩
theorem Gw.below {g : Nat} {w w' : World} (h : Below w.heap.size w w') : Gw g w w' := ⟨h.os, h.tape, h.output, h.size, fun k hk _ => h.block k hk⟩
theorem Gw.setCell {g : Nat} {u v : World} (h : Gw g u v) (o : Nat) (x : Value) : Gw g u (v.setCell ⟨g, o, none⟩ x) :=
  h.trans ⟨rfl, rfl, rfl, by simp [World.setCell], fun k _ hk => heap_setCell_other _ _ _ _ hk⟩
theorem Gw.drew {g : Nat} {u v : World} (h : Gw g u v) : Gw g u v.drew := ⟨h.os, h.tape, h.output, h.size, h.block⟩
theorem Gw.drewN {g : Nat} {u v : World} (h : Gw g u v) (n : Nat) : Gw g u (v.drewN n) := ⟨h.os, h.tape, h.output, h.size, h.block⟩

section
variable {W W' : World} {g n : Nat} {e : Nat → El}
theorem Arr.lt (h : Arr W g n e) : g < W.heap.size := by obtain ⟨cs, h1, _⟩ := h; exact h1.lt
theorem Arr.below (h : Arr W g n e) (hb : Below W.heap.size W W') : Arr W' g n e := by
  obtain ⟨cs, h1, h2⟩ := h
  exact ⟨cs, h1.below hb h1.lt, h2⟩
theorem Arr.drew (h : Arr W g n e) : Arr W.drew g n e := h
theorem Arr.c0 (h : Arr W g n e) {i : Nat} (hi : i < n) : W.cell? ⟨g, i * 4, none⟩ = some (num (e i).f) := by obtain ⟨cs, h1, h2⟩ := h; exact (h1.cell _).trans (h2 i hi).1
theorem Arr.c1 (h : Arr W g n e) {i : Nat} (hi : i < n) : W.cell? ⟨g, i * 4 + 1, none⟩ = some (num (e i).l) := by obtain ⟨cs, h1, h2⟩ := h; exact (h1.cell _).trans (h2 i hi).2.1
theorem Arr.c2 (h : Arr W g n e) {i : Nat} (hi : i < n) : W.cell? ⟨g, i * 4 + 2, none⟩ = some (.slice (e i).va (e i).vn (e i).vc) := by obtain ⟨cs, h1, h2⟩ := h; exact (h1.cell _).trans (h2 i hi).2.2.1
theorem Arr.c3 (h : Arr W g n e) {i : Nat} (hi : i < n) : W.cell? ⟨g, i * 4 + 3, none⟩ = some (.bool (e i).al) := by obtain ⟨cs, h1, h2⟩ := h; exact (h1.cell _).trans (h2 i hi).2.2.2
theorem Arr.fz (h : Arr W g n e) (o : Nat) : W.frozen? ⟨g, o, none⟩ = false := by obtain ⟨cs, h1, h2⟩ := h; exact h1.frozen o
theorem Arr.put (h : Arr W g n e) {i : Nat} (hi : i < n) (x : El) :
    Arr ((((W.setCell ⟨g, i * 4, none⟩ (num x.f)).setCell ⟨g, i * 4 + 1, none⟩ (num x.l)).setCell ⟨g, i * 4 + 2, none⟩ (.slice x.va x.vn x.vc)).setCell ⟨g, i * 4 + 3, none⟩ (.bool x.al)) g n (upd e i x) := by
  obtain ⟨cs, h1, h2⟩ := h
  have hl : i * 4 + 3 < cs.length := (List.getElem?_eq_some_iff.1 (h2 i hi).2.2.2).1
  refine ⟨_, (((h1.set _ _).set _ _).set _ _).set _ _, fun j hj => ?_⟩
  obtain ⟨a0, a1, a2, a3⟩ := h2 j hj
  unfold upd
  by_cases e1 : j = i
  · subst e1
    rw [if_pos rfl]
    simp only [List.getElem?_set, List.length_set]
    refine ⟨?_, ?_, ?_, ?_⟩ <;> simp <;> omega
  · rw [if_neg e1]
    refine ⟨?_, ?_, ?_, ?_⟩
    · rw [List.getElem?_set_ne (by omega), List.getElem?_set_ne (by omega), List.getElem?_set_ne (by omega), List.getElem?_set_ne (by omega)]; exact a0
    · rw [List.getElem?_set_ne (by omega), List.getElem?_set_ne (by omega), List.getElem?_set_ne (by omega), List.getElem?_set_ne (by omega)]; exact a1
    · rw [List.getElem?_set_ne (by omega), List.getElem?_set_ne (by omega), List.getElem?_set_ne (by omega), List.getElem?_set_ne (by omega)]; exact a2
    · rw [List.getElem?_set_ne (by omega), List.getElem?_set_ne (by omega), List.getElem?_set_ne (by omega), List.getElem?_set_ne (by omega)]; exact a3
end

set_option maxRecDepth 20000 in
theorem isNaN_ok (a : Int) (w : World) : Calls Ybaz.prog 14 #[.int .i64 a] w fun e w' => e = .returned (.bool false) ∧ w' = w := by
  go_enter Ybaz.func14, Ybaz.ntmps14
  go_wp2
  go_ret
  exact ⟨rfl, rfl⟩
def cmpI (a b : Nat) : Int := if a < b then -1 else if b < a then 1 else 0
set_option maxRecDepth 20000 in
theorem Compare_ok (a b : Nat) (w : World) : Calls Ybaz.prog 7 #[num a, num b] w fun e w' => e = .returned (.int .i64 (cmpI a b)) ∧ w' = w := by
  unfold cmpI
  by_cases h : a < b
  · have g1 : (a : Int) < (b : Int) := by omega
    rw [if_pos h]
    go_enter Ybaz.func7, Ybaz.ntmps7
    go_wp2_with (go_at_call 14; refine (isNaN_ok _ _).mono ?_; rintro e w1 ⟨rfl, rfl⟩)
    go_ret
    exact ⟨rfl, rfl⟩
  · have g1 : ¬ (a : Int) < (b : Int) := by omega
    rw [if_neg h]
    by_cases h2 : b < a
    · have g2 : (b : Int) < (a : Int) := by omega
      rw [if_pos h2]
      go_enter Ybaz.func7, Ybaz.ntmps7
      go_wp2_with (go_at_call 14; refine (isNaN_ok _ _).mono ?_; rintro e w1 ⟨rfl, rfl⟩)
      go_ret
      exact ⟨rfl, rfl⟩
    · have g2 : ¬ (b : Int) < (a : Int) := by omega
      rw [if_neg h2]
      go_enter Ybaz.func7, Ybaz.ntmps7
      go_wp2_with (go_at_call 14; refine (isNaN_ok _ _).mono ?_; rintro e w1 ⟨rfl, rfl⟩)
      go_ret
      exact ⟨rfl, rfl⟩
set_option maxRecDepth 20000 in
/-- The law's closure: by 'from'. -/
theorem less_ok (x y : El) (w : World) : Calls Ybaz.prog 6 #[x.agg, y.agg] w fun e w' => e = .returned (.int .i64 (cmpI x.f y.f)) ∧ Below w.heap.size w w' := by
  have hB : Below w.heap.size w ((w.alloc (.cells #[num x.f, num x.l, .slice x.va x.vn x.vc, .bool x.al] 29)).alloc (.cells #[num y.f, num y.l, .slice y.va y.vn y.vc, .bool y.al] 29)) := ((Below.refl _ _).alloc (Nat.le_refl _) _).alloc (by simp) _
  go_enter Ybaz.func6, Ybaz.ntmps6
  go_wp2_with (go_at_call 7; refine (Compare_ok x.f y.f _).mono ?_; rintro e w1 ⟨rfl, rfl⟩)
  go_ret
  exact ⟨rfl, hB⟩
end Propose
end Go.Proofs.YbulkcrfgGreatFmt
