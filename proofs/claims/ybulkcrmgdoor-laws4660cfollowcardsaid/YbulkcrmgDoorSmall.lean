/-
  The small functions of the road: at, clone, word, or, Allocated, bytes, give, Give.
-/
import Derived.Test.YbulkcrmgDoorKit
import Derived.BigQuiet
import Derived.Deep.DeepCutAuto
import Derived.Deep.QuietTactic
import Derived.WalkSmall
import Derived.Laws.Cover3
import Derived.Laws.BitsAll
namespace Go.Proofs.YbulkcrmgDoor
open Go.RowKit
namespace Follow
open Kit

abbrev u (x : Nat) : Value := .int .u64 (x : Int)

/-- The slice value (a, len) reads as f 0, .., f (len - 1), in memory that lay below n₀. -/
def Reads (n₀ : Nat) (w : World) (a : Option Addr) (len : Nat) (f : Nat → Nat) : Prop :=
  0 < len → ∃ b off, a = some ⟨b, off, none⟩ ∧ b < n₀ ∧ ∀ i, i < len → w.cell? ⟨b, off + i, none⟩ = some (u (f i))
theorem Reads.below {n₀ : Nat} {w w' : World} {a : Option Addr} {len : Nat} {f : Nat → Nat} (h : Reads n₀ w a len f) (hb : Below n₀ w w') : Reads n₀ w' a len f := fun hp => by
  obtain ⟨b, off, e, hlt, hc⟩ := h hp
  exact ⟨b, off, e, hlt, fun i hi => (hb.cell (p := ⟨b, off + i, none⟩) hlt).trans (hc i hi)⟩

set_option maxRecDepth 20000 in
/-- zzs4660cat -/
theorem at_ok (n₀ : Nat) (a : Option Addr) (len cap : Nat) (f : Nat → Nat) (i : Nat) (w : World) (hlen : len ≤ 1024) (hi : i ≤ 1024) (hr : Reads n₀ w a len f) :
    Calls Ybad.prog 6 #[.slice a len cap, .int .i64 i] w fun e w' => e = .returned (u (if i < len then f i else 0)) ∧ w' = w := by
  by_cases hlt : i < len
  · obtain ⟨b, off, rfl, _, hc⟩ := hr (by omega)
    have hci := hc i hlt
    have hltI : (i : Int) < (len : Int) := by omega
    clear hc hr
    go_enter Ybad.func6, Ybad.ntmps6
    go_wp2
    go_ret
    simp [u]
  · have hltI : decide ((i : Int) < (len : Int)) = false := by simp; omega
    clear hr
    go_enter Ybad.func6, Ybad.ntmps6
    go_wp2
    go_ret
    simp [u]

theorem Ybad.info36 : (Ybad.prog.info? 36).map (fun i => (i.zero, i.size, i.bytes)) = some (some (.int .u64 0), 1, 8) := by kernel_rfl

theorem eqlSlice (a : Option Addr) (l c : Nat) (w : World) : (binOp .eql 22 (.slice a l c) (.slice none 0 0)).run Ybad.prog w = .ok (.bool a.isNone) w := by
  cases a <;> kernel_rfl
theorem neqMap (w : World) : (binOp .neq 27 (.map none) (.map none)).run Ybad.prog w = .ok (.bool false) w := by kernel_rfl

set_option maxRecDepth 20000 in
theorem clone_nil (w : World) : Calls Ybad.prog 5 #[.slice none 0 0] w fun e w' => e = .returned (.slice none 0 0) ∧ w' = w := by
  have he := eqlSlice none 0 0
  go_enter Ybad.func5, Ybad.ntmps5
  go_wp2
  go_ret
  exact ⟨rfl, rfl⟩

set_option maxRecDepth 20000 in
/-- zzs4660cclone, not nil -/
theorem clone_ok (n₀ : Nat) (x : Addr) (len cap : Nat) (f : Nat → Nat) (w : World) (hlen : len ≤ 1024) (hr : Reads n₀ w (some x) len f) (hn : n₀ ≤ w.heap.size) :
    Calls Ybad.prog 5 #[.slice (some x) len cap] w fun e w' => e = .returned (.slice (some ⟨w.heap.size, 0, none⟩) len len) ∧ w'.heap.size = w.heap.size + 1 ∧
      Row w' w.heap.size 36 ((List.range len).map (fun i => u (f i))) ∧ Below w.heap.size w w' := by
  obtain ⟨i0, hi, hz0, hz1, hz2⟩ := info_parts Ybad.info36
  have he := eqlSlice (some x) len cap
  have HR : Hid _ := hr
  clear hr
  go_enter Ybad.func5, Ybad.ntmps5
  go_upto_region 4 with (at_make; refine wpList_make_new _ rfl _ _ _ rfl 36 i0 _ 1 Ybad.underlying22 hi hz0 hz1 .i64 .i64 len len len len rfl rfl rfl rfl (Nat.le_refl _) (by rw [hz2]; omega) (by unfold maxLen; omega) ?_; intro w1 hs1 hrow1 hb1)
  obtain ⟨y0, hy0, hrow⟩ : ∃ y0 : List Value, y0.length = len ∧ Row w1 w.heap.size 36 y0 := ⟨_, by simp [size_madeCells], hrow1⟩
  have Hsrc : Hid (∀ j v, ((List.range len).map (fun i => u (f i)))[j]? = some v → w1.cell? (x.add j) = some v) := by
    intro j v hj
    by_cases hlt : j < len
    · obtain ⟨b, off, e, hb, hc⟩ := HR.out (by omega)
      cases e
      simp [hlt] at hj
      subst hj
      rw [show (Addr.mk b off none).add j = ⟨b, off + j, none⟩ by cases j <;> simp [Addr.add]]
      exact (hb1.cell (p := ⟨b, off + j, none⟩) (by show b < w.heap.size; omega)).trans (hc j hlt)
    · rw [List.getElem?_eq_none (by simp; omega)] at hj; cases hj
  have H1c : Hid (∀ v ∈ ((List.range len).map (fun i => u (f i))), v.oneCell' = true) := by
    intro v hv
    simp at hv
    obtain ⟨i, _, rfl⟩ := hv
    rfl
  have Hr : Hid _ := hrow
  clear hrow hrow1
  go_wp2_with (refine wpList_copy_full rfl (.tmp 9) (.tmp 10) 22 22 rfl 36 Ybad.underlying22 (by rw [hi]; simp [hz1]) w.heap.size len x len cap rfl rfl y0 36 Hr.out hy0 ((List.range len).map (fun i => u (f i))) (by simp) Hsrc.out H1c.out ?_)
  intro w2 ho2 hr2
  go_wp2
  go_ret
  exact ⟨rfl, ho2.size.trans hs1, hr2, hb1.trans (ho2.below (Nat.le_refl _))⟩

/-- A set in the dense form, its slice the row bM of n words. -/
def setCells (v : Value) (top words : Nat) : List Value := [.map none, v, .int .i64 top, .int .i64 words]

set_option maxRecDepth 20000 in
/-- (*set).word -/
theorem word_ok (r k : Nat) (a : Option Addr) (len cap : Nat) (f : Nat → Nat) (i : Nat) (w : World) (n₀ : Nat) (hlen : len ≤ 1024) (hi : i ≤ 1024)
    (h0 : w.cell? ⟨r, k, none⟩ = some (.map none)) (h1 : w.cell? ⟨r, k + 1, none⟩ = some (.slice a len cap)) (hr : Reads n₀ w a len f) :
    Calls Ybad.prog 20 #[.pointer (some ⟨r, k, none⟩), .int .i64 i] w fun e w' => e = .returned (u (if i < len then f i else 0)) ∧ w' = w := by
  have he := neqMap
  by_cases hlt : i < len
  · obtain ⟨b, off, rfl, _, hc⟩ := hr (by omega)
    have hci := hc i hlt
    have hltI : (i : Int) < (len : Int) := by omega
    clear hc hr
    go_enter Ybad.func20, Ybad.ntmps20
    go_wp2
    go_ret
    simp [u]
  · have hltI : decide ((i : Int) < (len : Int)) = false := by simp; omega
    clear hr
    go_enter Ybad.func20, Ybad.ntmps20
    go_wp2
    go_ret
    simp [u]

set_option maxRecDepth 20000 in
/-- memory.Allocated -/
theorem allocated_ok (n : Nat) (hn : n ≤ 100000) (w : World) : Calls Ybad.prog 22 #[.int .i64 n] w fun e w' => (∃ m : Nat, m ≤ 200000 ∧ e = .returned (.int .i64 m)) ∧ w' = w := by
  go_enter Ybad.func22, Ybad.ntmps22
  go_wp2
  all_goals go_ret
  all_goals refine ⟨?_, rfl⟩
  · exact ⟨0, by omega, rfl⟩
  · exact ⟨n + 8192, by omega, by simp⟩
  · exact ⟨n + n / 5 + 16, by omega, by simp⟩

set_option maxRecDepth 20000 in
/-- (*set).bytes -/
theorem bytes_ok (r : Nat) (a : Option Addr) (len cap : Nat) (w : World) (hcap : cap ≤ 4096) (h0 : w.cell? ⟨r, 0, none⟩ = some (.map none)) (h1 : w.cell? ⟨r, 1, none⟩ = some (.slice a len cap)) :
    Calls Ybad.prog 13 #[.pointer (some ⟨r, 0, none⟩)] w fun e w' => (∃ m : Nat, m ≤ 200000 ∧ e = .returned (.int .i64 m)) ∧ w' = w := by
  have he := neqMap
  go_enter Ybad.func13, Ybad.ntmps13
  go_wp2_with fail
  rw [show (8 * (cap : Int)) = ((8 * cap : Nat) : Int) by simp]
  refine (allocated_ok (8 * cap) (by omega) w).mono ?_
  rintro e w' ⟨⟨m, hm, rfl⟩, rfl⟩
  go_wp2
  go_ret
  exact ⟨⟨m, hm, rfl⟩, rfl⟩

/-- An empty budget that has counted c bytes less. -/
def budCells (c : Int) : List Value := [.int .i64 c, .int .i64 0, .int .i64 0, .pointer none, .int .i64 0, .bool false, .bool false, .bool false]

set_option maxRecDepth 20000 in
/-- (*Budget).give, of a budget that is no part of another -/
theorem give_ok (b : Nat) (c : Nat) (hc : c ≤ 400000) (w : World) (hb : Row w b 43 (budCells 0)) :
    Calls Ybad.prog 21 #[.pointer (some ⟨b, 0, none⟩), .int .i64 c, .int .i64 0] w fun e w' => (∃ v, e = .returned v) ∧ Only b w w' := by
  have h0 := hb.cell 0
  have h1 := hb.cell 1
  have h3 := hb.cell 3
  have h4 := hb.cell 4
  simp [budCells] at h0 h1 h3 h4
  have f0 := hb.frozen 0
  have f1 := hb.frozen 1
  have f4 := hb.frozen 4
  go_enter Ybad.func21, Ybad.ntmps21
  go_wp2
  go_end0
  exact ⟨⟨_, rfl⟩, (((Only.refl b w).setCell _ _).setCell _ _).setCell _ _⟩

set_option maxRecDepth 20000 in
/-- (*Budget).Give -/
theorem Give_ok (b : Nat) (c : Nat) (hc : c ≤ 200000) (w : World) (hb : Row w b 43 (budCells 0)) :
    Calls Ybad.prog 12 #[.pointer (some ⟨b, 0, none⟩), .int .i64 c] w fun e w' => (∃ v, e = .returned v) ∧ Only b w w' := by
  have h7 := hb.cell 7
  simp [budCells] at h7
  go_enter Ybad.func12, Ybad.ntmps12
  go_wp2_with fail
  rw [show (2 * (c : Int)) = ((2 * c : Nat) : Int) by simp]
  refine (give_ok b (2 * c) (by omega) w hb).mono ?_
  rintro e w' ⟨⟨v, rfl⟩, ho⟩
  go_wp2
  go_end0
  exact ⟨⟨_, rfl⟩, ho⟩

end Follow
end Go.Proofs.YbulkcrmgDoor
