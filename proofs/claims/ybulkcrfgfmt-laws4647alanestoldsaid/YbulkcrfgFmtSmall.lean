import Derived.Test.YbulkcrfgFmtKit
import Derived.BigQuiet
import Derived.Deep.DeepCutAuto
import Derived.Deep.QuietTactic
import Derived.WalkSmall
namespace Go.Proofs.YbulkcrfgFmt
open Go.RowKit
namespace Lanes
open Kit

set_option maxRecDepth 20000 in
/-- (Config).check of a sound group. -/
theorem check_ok (N : Nat) (h1 : 1 ≤ N) (h2 : N ≤ 1024) (w : World) :
    Calls Ybaf.prog 6 #[.agg #[.int .i64 N, .int .i64 0], .int .i64 1] w fun e w' => e = .returned .nilIface ∧ w' = w.alloc (.cells #[.int .i64 N, .int .i64 0] 32) := by
  have a1 : decide ((N : Int) < 1) = false := by simp; omega
  have a2 : decide ((1024 : Int) < (N : Int)) = false := by simp; omega
  have a3 : decide ((N : Int) ≤ 0) = false := by simp; omega
  have a4 : decide ((N : Int) < 1) = false := by simp; omega
  go_enter Ybaf.func6, Ybaf.ntmps6
  go_wp2
  go_ret
  exact ⟨rfl, rfl⟩

/-- slices.Max of a row of positive numbers. -/
theorem max_any (b n : Nat) (f : Nat → Nat) (w : World) (hn : 1 ≤ n) (hn2 : n ≤ 8) (hf : ∀ i, f i ≤ 1000) (hc : ∀ i, i < n → w.cell? ⟨b, i, none⟩ = some (.int .i64 (f i))) :
    Calls Ybaf.prog 8 #[.slice (some ⟨b, 0, none⟩) n n] w fun e w' => ∃ m : Nat, e = .returned (.int .i64 m) ∧ (∀ i, i < n → f i ≤ m) ∧ (∃ i, i < n ∧ f i = m) ∧ w' = w := by
  have h0 := hc 0 (by omega)
  have d1 : decide ((n : Int) < 1) = false := by simp; omega
  have HC : Hid _ := hc
  have HF : Hid _ := hf
  clear hc hf
  go_enter Ybaf.func8, Ybaf.ntmps8
  go_wp2
  go_loop [3, 4] (fun v i => ∃ k m : Nat, 1 ≤ k ∧ k ≤ n ∧ i = .int .i64 k ∧ v = .int .i64 m ∧ (∀ i, i < k → f i ≤ m) ∧ (∃ i, i < k ∧ f i = m)) (fun _ i => n - (intOf i).toNat)
  case atStart =>
    refine ⟨1, f 0, by omega, hn, rfl, rfl, ?_, ⟨0, by omega, rfl⟩⟩
    intro i hi
    obtain rfl : i = 0 := by omega
    exact Nat.le_refl _
  case round =>
    obtain ⟨k, m, hk1, hk2, rfl, rfl, hall, hex⟩ := hrel
    have HA : Hid (_ ∧ _) := ⟨hall, hex⟩
    clear hall hex
    by_cases hlt : k < n
    · have hck := HC.out k hlt
      have hltI : (k : Int) < (n : Int) := by omega
      go_wp2
      go_round
      case rel =>
        obtain ⟨hall, i0, hi0, hx⟩ := HA.out
        by_cases hm : m < f k
        · refine ⟨k + 1, f k, by omega, by omega, by go_num, by rw [if_pos hm], ?_, ⟨k, by omega, rfl⟩⟩
          intro i hi
          by_cases e : i = k
          · subst e; exact Nat.le_refl _
          · have := hall i (by omega); omega
        · refine ⟨k + 1, m, by omega, by omega, by go_num, by rw [if_neg hm], ?_, ⟨i0, by omega, hx⟩⟩
          intro i hi
          by_cases e : i = k
          · subst e; omega
          · exact hall i (by omega)
      case measure => simp [intOf]; omega
    · go_wp2
      go_ret
      obtain rfl : k = n := by omega
      exact ⟨m, rfl, HA.out.1, HA.out.2, rfl⟩

theorem info44 : (Ybaf.prog.info? 4).map (fun i => (i.zero, i.size, i.bytes)) = some (some (.bool false), 1, 1) := by kernel_rfl

/-- newMailbox: a mailbox of n + 1 places. -/
theorem box_any (n : Nat) (hn : n ≤ 1024) (w : World) :
    Calls Ybaf.prog 7 #[.int .i64 n] w fun e w' => ∃ g, e = .returned (.agg #[.slice (some ⟨g, 0, none⟩) (n + 1) (n + 1), .slice none 0 0]) ∧ w.heap.size < w'.heap.size ∧ Below w.heap.size w w' := by
  obtain ⟨i4, hi4, hz4, hs4, hb4⟩ := info_parts info44
  go_enter Ybaf.func7, Ybaf.ntmps7
  go_wp2_with (at_make; refine wpList_make_new _ rfl _ _ 46 rfl 4 i4 _ 1 Ybaf.underlying46 hi4 hz4 hs4 _ _ _ _ (n + 1) (n + 1) rfl rfl (by omega) (by omega) (Nat.le_refl _) (by rw [hb4]; omega) (by unfold maxLen; omega) ?_)
  intro w2 hs hr hb
  have hr0 : Row w2 w.heap.size 49 [.slice none 0 0, .slice none 0 0] := (Row.new w 49 _ _ rfl).below hb (by omega)
  have c0 : w2.cell? ⟨w.heap.size, 0, none⟩ = some (.slice none 0 0) := by rw [hr0.cell]; rfl
  have c1 : w2.cell? ⟨w.heap.size, 1, none⟩ = some (.slice none 0 0) := by rw [hr0.cell]; rfl
  have f0 := hr0.frozen 0
  have f1 := hr0.frozen 1
  have HB : Hid (w.heap.size < w2.heap.size ∧ Below w.heap.size w w2) := ⟨by omega, ((Below.refl _ _).alloc (Nat.le_refl _) _).trans (hb.mono (by omega))⟩
  clear hs hr hb hr0
  go_wp2
  refine bodyPost_ret (v := .agg #[.slice (some ⟨w.heap.size + 1, 0, none⟩) (n + 1) (n + 1), .slice none 0 0]) ?_ rfl ⟨w.heap.size + 1, rfl, ?_, ?_⟩
  · simp [results, Ybaf.results7, go_sem, c0, c1]
  · have := HB.out.1; simp; omega
  · exact ((HB.out.2.setCell (by simp) _).setCell (by simp) _)
end Lanes
end Go.Proofs.YbulkcrfgFmt
