/-
  policy.Index, bitset.New, (Set).Add.
-/
import Derived.Test.YbulkcrmgSmall
namespace Go.Proofs.Ybulkcrmg
open Go.RowKit
namespace Order
open Kit

abbrev str (k : Nat) : Value := .string (nm 114 k)
/-- The numbers of the roles rs 0, .., rs (j - 1), by their last place; how many there are. -/
def idx (rs : Nat → Nat) : Nat → Nat → Nat → Option Nat
  | 0 => fun _ _ => none
  | j + 1 => upd (idx rs j) 114 (rs j) j
def szI (rs : Nat → Nat) : Nat → Nat
  | 0 => 0
  | j + 1 => if (idx rs j 114 (rs j)).isSome then szI rs j else szI rs j + 1

theorem makeHint (n : Nat) (w : World) : (Instr.makeMap 44 (some (.int .i64 (n : Int)))).run Yba.prog w = .ok (.map (some w.heap.size)) (w.alloc (.map #[] 0)) := by
  simp [Instr.makeMap, run_underlying Yba.underlying44, asInt, asIntOf]

set_option maxRecDepth 20000 in
theorem Index_ok (bR n : Nat) (rs : Nat → Nat) (w : World) (hn : n ≤ 1024) (hr : ∀ i, rs i < 10) (hrow : Row w bR 9 ((List.range n).map (fun i => str (rs i)))) :
    Calls Yba.prog 6 #[.slice (some ⟨bR, 0, none⟩) n n] w fun e w' => e = .returned (.map (some w.heap.size)) ∧ MapIs w' w.heap.size (idx rs n) (szI rs n) n ∧ Below w.heap.size w w' := by
  have hmm := makeHint
  have HR : Hid _ := hr
  have HW : Hid _ := hrow
  have hlt := hrow.lt
  clear hr hrow
  go_enter Yba.func6, Yba.ntmps6
  go_wp2
  go_loopw [11] (fun v wr => ∃ k : Nat, k ≤ n ∧ v = .int .i64 k ∧ MapIs wr w.heap.size (idx rs k) (szI rs k) k ∧ Below w.heap.size w wr) (fun v _ => n - (intOf v).toNat)
  case atStart => exact ⟨0, Nat.zero_le _, rfl, MapIs.made w, (Below.refl _ w).alloc (Nat.le_refl _) _⟩
  case round =>
    obtain ⟨k, hk, rfl, hM, hB⟩ := hrel
    by_cases hlk : k < n
    · have hc : wr.cell? ⟨bR, k, none⟩ = some (str (rs k)) := by
        rw [(Row.below HW.out hB hlt).cell k]; simp [hlk]
      have g1 : (k : Int) < (n : Int) := by omega
      obtain ⟨w', hrun, hM', hg⟩ := hM.put (by omega) 114 (rs k) k (by omega) (HR.out k) (by omega)
      have HM : Hid _ := And.intro hM' hg
      clear hM hM' hg
      go_wp2
      go_roundw
      case rel =>
        obtain ⟨hM', hg⟩ := HM.out
        exact ⟨k + 1, by omega, by simp, hM', hB.grown hg hB.size (fun j e => by cases e; exact Nat.le_refl _)⟩
      case measure => simp [intOf]; omega
    · obtain rfl : k = n := by omega
      go_wp2
      go_ret
      exact ⟨rfl, hM, hB⟩

theorem Yba.info59 : (Yba.prog.info? 59).map (fun i => (i.zero, i.size, i.bytes)) = some (some (.int .u64 0), 1, 8) := by kernel_rfl

set_option maxRecDepth 20000 in
/-- bitset.New -/
theorem New_ok (n : Nat) (hn : n ≤ 2000) (w : World) :
    Calls Yba.prog 7 #[.int .i64 n] w fun e w' => e = .returned (.slice (some ⟨w.heap.size, 0, none⟩) ((n + 63) / 64) ((n + 63) / 64)) ∧ w'.heap.size = w.heap.size + 1 ∧ Row w' w.heap.size 59 (List.replicate ((n + 63) / 64) (.int .u64 0)) ∧ Below w.heap.size w w' := by
  obtain ⟨i0, hi, hz0, hz1, hz2⟩ := info_parts Yba.info59
  go_enter Yba.func7, Yba.ntmps7
  go_wp2_with (first | (go_at_call 9; refine (words_ok n hn w).mono ?_; rintro e w1 ⟨rfl, rfl⟩) | (at_make; refine wpList_make_new _ rfl _ _ _ rfl 59 i0 _ 1 Yba.underlying54 hi hz0 hz1 .i64 .i64 _ _ ((n + 63) / 64) ((n + 63) / 64) rfl rfl rfl rfl (Nat.le_refl _) (by rw [hz2]; omega) (by unfold maxLen; omega) ?_; intro w1 hs1 hrow1 hb1))
  go_ret
  refine ⟨rfl, hs1, ?_, hb1⟩
  rw [Nat.mul_one] at hrow1
  rw [← toList_madeCells_one]
  exact hrow1

set_option maxRecDepth 20000 in
/-- (Set).Add, of a set of one word. -/
theorem Add_ok (b i x : Nat) (hi : i < 10) (hx : x < 18446744073709551616) (w : World) (hb : Row w b 59 [.int .u64 (x : Int)]) :
    Calls Yba.prog 8 #[.slice (some ⟨b, 0, none⟩) 1 1, .int .i64 i] w fun e w' => (∃ v, e = .returned v) ∧ Only b w w' ∧ Row w' b 59 [.int .u64 ((x ||| 2 ^ i : Nat) : Int)] := by
  have c0 := hb.cell 0
  have f0 := hb.frozen 0
  simp only [List.getElem?_cons_zero] at c0
  have d0 : (i : Int) / 64 = 0 := by omega
  have d1 : (i : Int) % 64 = (i : Int) := by omega
  go_enter Yba.func8, Yba.ntmps8
  have hp : (2 : Nat) ^ i < 18446744073709551616 := Nat.lt_of_lt_of_le (Nat.pow_lt_pow_right (by omega) hi) (by omega)
  have hw : IntKind.u64.wrap ((2 : Int) ^ i) = ((2 ^ i : Nat) : Int) := by
    rw [show ((2 : Int) ^ i) = ((2 ^ i : Nat) : Int) by simp]
    generalize 2 ^ i = y at hp ⊢
    rw [IntKind.wrap_u64]
    omega
  have hbits : bits .or .u64 (x : Int) (((2 ^ i : Nat)) : Int) = ((x ||| 2 ^ i : Nat) : Int) := u64_or_nat x (2 ^ i) hx hp
  have e : bits .or .u64 (x : Int) (IntKind.u64.wrap ((2 : Int) ^ i)) = ((x ||| 2 ^ i : Nat) : Int) := by rw [hw, hbits]
  clear hw hbits hp
  go_wp2
  go_end0
  refine ⟨⟨_, rfl⟩, (Only.refl b w).setCell _ _, ?_⟩
  have h := hb.set 0 (.int .u64 ((x ||| 2 ^ i : Nat) : Int))
  simpa using h
end Order
end Go.Proofs.Ybulkcrmg
