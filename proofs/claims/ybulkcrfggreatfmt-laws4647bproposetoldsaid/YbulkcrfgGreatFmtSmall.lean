/-
  LawS4647BPropose: the small functions.
-/
import Derived.Test.YbulkcrfgGreatFmtArr
import Derived.Test.YbulkcrfgGreatFmtShelf
namespace Go.Proofs.YbulkcrfgGreatFmt
open Go.RowKit
namespace Propose
open Kit

/-- The pool's values as bytes. -/
def poolL : Nat → List UInt8
  | 1 => [97]
  | 2 => [98]
  | 3 => [99]
  | 4 => [97, 98]
  | 5 => Lib.repeatL [122] 257
  | _ => []
def pool (i : Nat) : ByteArray := ⟨(poolL i).toArray⟩

set_option maxRecDepth 20000 in
theorem pool_ok (i : Nat) (hi : i < 6) (w : World) : Calls Ybaz.prog 8 #[num i] w fun e w' => e = .returned (.string (pool i)) ∧ Below w.heap.size w w' := by
  obtain rfl | rfl | rfl | rfl | rfl | rfl : i = 0 ∨ i = 1 ∨ i = 2 ∨ i = 3 ∨ i = 4 ∨ i = 5 := by omega
  · go_enter Ybaz.func8, Ybaz.ntmps8
    go_wp2_with fail
    go_ret
    exact ⟨rfl, Below.refl _ _⟩
  · go_enter Ybaz.func8, Ybaz.ntmps8
    go_wp2_with fail
    go_ret
    exact ⟨rfl, Below.refl _ _⟩
  · go_enter Ybaz.func8, Ybaz.ntmps8
    go_wp2_with fail
    go_ret
    exact ⟨rfl, Below.refl _ _⟩
  · go_enter Ybaz.func8, Ybaz.ntmps8
    go_wp2_with fail
    go_ret
    exact ⟨rfl, Below.refl _ _⟩
  · go_enter Ybaz.func8, Ybaz.ntmps8
    go_wp2_with fail
    go_ret
    exact ⟨rfl, Below.refl _ _⟩
  · have h := Ybaz.strings_Repeat ⟨#[122]⟩ 257 w (by omega) (by decide)
    have HC : Hid (Calls Ybaz.prog 15 #[.string ⟨#[122]⟩, .int .i64 257] w fun e w' => e = .returned (.string ⟨(Lib.repeatL [122] 257).toArray⟩) ∧ Below w.heap.size w w') := h
    clear h
    go_enter Ybaz.func8, Ybaz.ntmps8
    go_wp2_with (go_at_call 15; refine HC.out.mono ?_; rintro e w1 ⟨rfl, hb⟩)
    go_ret
    exact ⟨rfl, hb⟩

abbrev cfg (N T : Nat) : Value := .agg #[num N, num T]
abbrev ptr (b : Nat) : Value := .pointer (some ⟨b, 0, none⟩)
set_option maxRecDepth 20000 in
theorem check_ok (N T id : Nat) (hN : 1 ≤ N ∧ N ≤ 7) (hT : T < N) (hid : 1 ≤ id ∧ id ≤ N) (w : World) :
    Calls Ybaz.prog 38 #[cfg N T, num id] w fun e w' => e = .returned .nilIface ∧ Below w.heap.size w w' := by
  have d1 : decide ((N : Int) < 1) = false := by simp; omega
  have d2 : decide ((1024 : Int) < (N : Int)) = false := by simp; omega
  have d3 : decide ((T : Int) < 0) = false := by simp
  have d4 : decide ((N : Int) ≤ (T : Int)) = false := by simp; omega
  have d5 : decide ((id : Int) < 1) = false := by simp; omega
  have d6 : decide ((N : Int) < (id : Int)) = false := by simp; omega
  have hB : Below w.heap.size w (w.alloc (.cells #[num N, num T] 45)) := (Below.refl _ _).alloc (Nat.le_refl _) _
  go_enter Ybaz.func38, Ybaz.ntmps38
  go_wp2_with fail
  go_ret
  exact ⟨rfl, hB⟩
set_option maxRecDepth 20000 in
theorem ListQuorum_ok (N T : Nat) (hN : 1 ≤ N ∧ N ≤ 7) (hT : T < N) (w : World) :
    Calls Ybaz.prog 26 #[cfg N T] w fun e w' => e = .returned (num (N - T)) ∧ Below w.heap.size w w' := by
  have hB : Below w.heap.size w (w.alloc (.cells #[num N, num T] 45)) := (Below.refl _ _).alloc (Nat.le_refl _) _
  have e1 : (N : Int) - (T : Int) = ((N - T : Nat) : Int) := by omega
  have e2 : IntKind.i64.wrap ((N - T : Nat) : Int) = ((N - T : Nat) : Int) := by rw [IntKind.wrap_i64]; omega
  go_enter Ybaz.func26, Ybaz.ntmps26
  go_wp2_with fail
  go_ret
  exact ⟨rfl, hB⟩
set_option maxRecDepth 20000 in
theorem SuperroundOf_ok (w : World) : Calls Ybaz.prog 61 #[.int .i64 0] w fun e w' => e = .returned (.int .i64 0) ∧ w' = w := by
  go_enter Ybaz.func61, Ybaz.ntmps61
  go_wp2_with fail
  go_ret
  exact ⟨rfl, rfl⟩
end Propose
end Go.Proofs.YbulkcrfgGreatFmt
