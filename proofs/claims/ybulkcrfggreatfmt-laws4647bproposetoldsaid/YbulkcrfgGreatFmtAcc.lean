/-
  LawS4647BPropose: owned, track.at, accepted.
-/
import Derived.Test.YbulkcrfgGreatFmtNaming
namespace Go.Proofs.YbulkcrfgGreatFmt
open Go.RowKit
namespace Propose
open Kit

set_option maxRecDepth 20000 in
set_option maxHeartbeats 1000000 in
theorem owned_ok (mb ph N k j : Nat) (w : World) (hN : 1 ≤ N ∧ N ≤ 7) (hk : 1 ≤ k ∧ k ≤ 20) (hj : j = (k - 1) % N) (c0 : w.cell? ⟨mb, 0, none⟩ = some (num N)) (c12 : w.cell? ⟨mb, 12, none⟩ = some (.slice (some ⟨ph, 0, none⟩) N N)) :
    Calls Ybaz.prog 41 #[ptr mb, num k] w fun e w' => e = .returned (.pointer (some ⟨ph, j * 2, none⟩)) ∧ ∃ q, w' = w.drewN q := by
  obtain ⟨p, hp⟩ : ∃ p, p = k - 1 := ⟨_, rfl⟩
  have e1 : (k : Int) - 1 = (p : Int) := by omega
  have e2 : IntKind.i64.wrap (p : Int) = (p : Int) := by rw [IntKind.wrap_i64]; omega
  have hjl : j < N := by rw [hj]; exact Nat.mod_lt _ (by omega)
  have e3 : (p : Int).tmod (N : Int) = (j : Int) := by rw [hj, ← hp]; exact (Int.ofNat_tmod p N).symm
  have e4 : IntKind.i64.wrap (j : Int) = (j : Int) := by rw [IntKind.wrap_i64]; omega
  have e5 : ¬ (N : Int) = 0 := by omega
  have e6 : ((N : Int) == 0) = false := by simp; omega
  have g1 : (j : Int) < (N : Int) := by omega
  have e7 : (p : Int) % (N : Int) = (j : Int) := by rw [hj, ← hp]; rfl
  clear hj hp
  go_enter Ybaz.func41, Ybaz.ntmps41
  go_upto_region 1 with fail
  go_quiet (fail)
  go_wp2
  go_ret
  exact ⟨rfl, _, rfl⟩
set_option maxRecDepth 20000 in
theorem bsf_none (a : Option Addr) (cap : Nat) (k : Nat) (w : World) : Calls Ybaz.prog 83 #[.slice a 0 cap, num k, .func (.func 84) #[] #[]] w fun e w' => e = .returned (.tuple #[.int .i64 0, .bool false]) ∧ w' = w := by
  go_enter Ybaz.func83, Ybaz.ntmps83
  go_upto_region 3 with fail
  go_loopw [9, 10] (fun v v2 wr => v = .int .i64 0 ∧ v2 = .int .i64 0 ∧ wr = w) (fun _ _ _ => 0)
  case atStart => exact ⟨rfl, rfl, rfl⟩
  case round =>
    obtain ⟨rfl, rfl, rfl⟩ := hrel
    go_wp2_with fail
    go_ret2
    exact ⟨rfl, rfl⟩
set_option maxRecDepth 20000 in
set_option maxHeartbeats 1000000 in
/-- The one stretch of the track ends at k. -/
theorem at_ok (tb o1 ss st k : Nat) (w : World) (c1 : w.cell? ⟨tb, o1 + 1, none⟩ = some (.slice (some ⟨ss, 0, none⟩) 1 1)) (cs : w.cell? ⟨ss, 0, none⟩ = some (ptr st)) (cl : w.cell? ⟨st, 1, none⟩ = some (num k)) :
    Calls Ybaz.prog 52 #[.pointer (some ⟨tb, o1, none⟩), num k] w fun e w' => e = .returned (.int .i64 0) ∧ ∃ q, w' = w.drewN q := by
  have g1 : ¬ ((k : Int) < (k : Int)) := by omega
  go_enter Ybaz.func52, Ybaz.ntmps52
  go_upto_region 3 with fail
  go_loopw [5] (fun v wr => (v = .int .i64 1 ∨ v = .int .i64 0) ∧ wr = w) (fun v _ => (intOf v).toNat)
  case atStart => exact ⟨.inl rfl, rfl⟩
  case round =>
    obtain ⟨h | h, rfl⟩ := hrel
    · subst h
      go_wp2_with fail
      go_roundw
      case rel => exact ⟨.inr rfl, trivial⟩
      case measure => simp [intOf]
    · subst h
      go_wp2_with (go_at_call 83; refine (bsf_none _ _ k _).mono ?_; rintro e w1 ⟨rfl, rfl⟩)
      go_ret
      exact ⟨rfl, 0, rfl⟩
set_option maxRecDepth 20000 in
set_option maxHeartbeats 1000000 in
theorem accepted_ok (mb ph ss st N k j : Nat) (w : World) (hN : 1 ≤ N ∧ N ≤ 7) (hk : 1 ≤ k ∧ k ≤ 20) (hj : j = (k - 1) % N) (c0 : w.cell? ⟨mb, 0, none⟩ = some (num N)) (c12 : w.cell? ⟨mb, 12, none⟩ = some (.slice (some ⟨ph, 0, none⟩) N N))
    (c1 : w.cell? ⟨ph, j * 2 + 1, none⟩ = some (.slice (some ⟨ss, 0, none⟩) 1 1)) (cs : w.cell? ⟨ss, 0, none⟩ = some (ptr st)) (cf : w.cell? ⟨st, 0, none⟩ = some (num k)) (cl : w.cell? ⟨st, 1, none⟩ = some (num k)) :
    Calls Ybaz.prog 23 #[ptr mb, num k] w fun e w' => e = .returned (.pointer (some ⟨st, 2, none⟩)) ∧ ∃ q, w' = w.drewN q := by
  have HC : Hid (Calls Ybaz.prog 41 #[ptr mb, num k] w fun e w' => e = .returned (.pointer (some ⟨ph, j * 2, none⟩)) ∧ ∃ q, w' = w.drewN q) := owned_ok mb ph N k j w hN hk hj c0 c12
  clear hj
  go_enter Ybaz.func23, Ybaz.ntmps23
  go_wp2_with (first | (go_at_call 41; refine HC.out.mono ?_; rintro e w1 ⟨rfl, q1, rfl⟩) | (go_at_call 52; refine (at_ok ph (j * 2) ss st k _ (by exact c1) (by exact cs) (by exact cl)).mono ?_; rintro e w2 ⟨rfl, q2, rfl⟩))
  go_ret
  exact ⟨rfl, _, rfl⟩
end Propose
end Go.Proofs.YbulkcrfgGreatFmt
