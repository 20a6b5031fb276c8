/-
  LawS4660CFollow: the walk.
-/
import Derived.Test.YbulkcrmgDoorMid
namespace Go.Proofs.YbulkcrmgDoor
open Go.RowKit
namespace Follow
open Kit

set_option maxRecDepth 20000 in
set_option maxHeartbeats 8000000 in
theorem walk_main (aF aA aB aH aC : Option Addr) (lF cF lA cA lB cB lH cH lC cC : Nat) (fF fA fB fH fC : Nat → Nat) (qA qB qH qR : Bool) (w : World)
    (hlF : lF ≤ 512) (hlA : lA ≤ 1024) (hlB : lB ≤ 1024) (hlH : lH ≤ 1024) (hlC : lC ≤ 1024)
    (bF : ∀ i, fF i < 18446744073709551616) (bA : ∀ i, fA i < 18446744073709551616) (bB : ∀ i, fB i < 18446744073709551616) (bH : ∀ i, fH i < 18446744073709551616) (bC : ∀ i, fC i < 18446744073709551616)
    (rF : Reads w.heap.size w aF lF fF) (rA : Reads w.heap.size w aA lA fA) (rB : Reads w.heap.size w aB lB fB) (rH : Reads w.heap.size w aH lH fH) (rC : Reads w.heap.size w aC lC fC)
    (nF : aF = none → lF = 0 ∧ cF = 0) (nC : aC = none → lC = 0 ∧ cC = 0) :
    Calls Ybad.prog 3 #[.slice aF lF cF, .slice aA lA cA, .slice aB lB cB, .slice aH lH cH, .slice aC lC cC, .bool qA, .bool qB, .bool qH, .bool qR] w fun e w' => e = .returned (.bool true) ∧ Below w.heap.size w w' := by
  have d1 : decide ((512 : Int) < (lF : Int)) = false := by simp; omega
  have d2 : decide ((1024 : Int) < (lA : Int)) = false := by simp; omega
  have d3 : decide ((1024 : Int) < (lB : Int)) = false := by simp; omega
  have d4 : decide ((1024 : Int) < (lH : Int)) = false := by simp; omega
  have d5 : decide ((1024 : Int) < (lC : Int)) = false := by simp; omega
  have HB : Hid ((∀ i, fF i < 18446744073709551616) ∧ (∀ i, fA i < 18446744073709551616) ∧ (∀ i, fB i < 18446744073709551616) ∧ (∀ i, fH i < 18446744073709551616) ∧ (∀ i, fC i < 18446744073709551616)) := ⟨bF, bA, bB, bH, bC⟩
  have HR : Hid (Reads w.heap.size w aF lF fF ∧ Reads w.heap.size w aA lA fA ∧ Reads w.heap.size w aB lB fB ∧ Reads w.heap.size w aH lH fH ∧ Reads w.heap.size w aC lC fC) := ⟨rF, rA, rB, rH, rC⟩
  have HN : Hid ((aF = none → lF = 0 ∧ cF = 0) ∧ (aC = none → lC = 0 ∧ cC = 0)) := ⟨nF, nC⟩
  clear bF bA bB bH bC rF rA rB rH rC nF nC
  obtain ⟨B, hB⟩ : ∃ B, w.heap.size = B := ⟨_, rfl⟩
  go_enter Ybad.func3, Ybad.ntmps3
  rw [hB] at HR
  go_upto_region 5 with (go_at_call 4; refine (target_ok B 1 aA lA cA fA lF qA w hlA hlF HB.out.2.1 HR.out.2.1 (by omega)).mono ?_; rintro e W1 ⟨rfl, s1, x1, x2, x3, x4⟩)
  rw [hB] at s1 x1 x2 x3 x4
  have T0 := Tg.new HB.out.2.1 x1 x2 x3
  clear x1 x2 x3
  go_upto_region 6 with (go_at_call 4; refine (target_ok B 2 aB lB cB fB lF qB W1 hlB hlF HB.out.2.2.1 (HR.out.2.2.1.below x4) (by omega)).mono ?_; rintro e W2 ⟨rfl, s2, x1, x2, x3, x5⟩)
  rw [s1] at s2 x1 x2 x3 x5
  have T1 := Tg.new HB.out.2.2.1 x1 x2 x3
  replace T0 := T0.below x5 (by omega) (by omega) (by omega)
  replace x4 := x4.trans (x5.mono (by omega))
  clear x1 x2 x3 x5
  go_upto_region 7 with (go_at_call 4; refine (target_ok B 3 aH lH cH fH lF qH W2 hlH hlF HB.out.2.2.2.1 (HR.out.2.2.2.1.below x4) (by omega)).mono ?_; rintro e W3 ⟨rfl, s3, x1, x2, x3, x5⟩)
  rw [s2] at s3 x1 x2 x3 x5
  have TH := Tg.new HB.out.2.2.2.1 x1 x2 x3
  replace T0 := T0.below x5 (by omega) (by omega) (by omega)
  replace T1 := T1.below x5 (by omega) (by omega) (by omega)
  replace x4 := x4.trans (x5.mono (by omega))
  clear x1 x2 x3 x5
  go_upto_region 8 with fail
  simp only [Nat.add_assoc, Nat.reduceAdd] at s2 s3 T1 TH ⊢
  have hO4 := Row.new W3 34 [.string ⟨#[]⟩, .string ⟨#[]⟩, .int .i64 4, .pointer none, .map none, .slice none 0 0, .int .i64 0, .int .i64 0, .map none, .slice none 0 0, .int .i64 0, .int .i64 0, .bool false, .slice none 0 0, .slice none 0 0, .slice none 0 0] (B + 9) s3.symm
  have hB4 := (Below.refl (B + 9) W3).alloc (by omega) (.cells #[.string ⟨#[]⟩, .string ⟨#[]⟩, .int .i64 4, .pointer none, .map none, .slice none 0 0, .int .i64 0, .int .i64 0, .map none, .slice none 0 0, .int .i64 0, .int .i64 0, .bool false, .slice none 0 0, .slice none 0 0, .slice none 0 0] 34)
  have hs4 : (W3.alloc (.cells #[.string ⟨#[]⟩, .string ⟨#[]⟩, .int .i64 4, .pointer none, .map none, .slice none 0 0, .int .i64 0, .int .i64 0, .map none, .slice none 0 0, .int .i64 0, .int .i64 0, .bool false, .slice none 0 0, .slice none 0 0, .slice none 0 0] 34)).heap.size = B + 10 := by simp [s3]
  generalize hW4 : W3.alloc _ = W4 at hO4 hB4 hs4 ⊢
  clear hW4
  obtain ⟨oc0, hoc0⟩ : ∃ oc : List Value, oc = [.string ⟨#[]⟩, .string ⟨#[]⟩, .int .i64 4, .pointer none, .map none, .slice none 0 0, .int .i64 0, .int .i64 0, .map none, .slice none 0 0, .int .i64 0, .int .i64 0, .bool false, .slice none 0 0, .slice none 0 0, .slice none 0 0] := ⟨_, rfl⟩
  rw [← hoc0] at hO4
  have ok1 : oc0.length = 16 ∧ oc0[4]? = some (.map none) ∧ oc0[5]? = some (.slice none 0 0) ∧ oc0[9]? = some (.slice none 0 0) ∧ oc0[12]? = some (.bool false) := by rw [hoc0]; exact ⟨rfl, rfl, rfl, rfl, rfl⟩
  clear hoc0
  obtain ⟨ol, o4, o5, o9, o12⟩ := ok1
  have rC4 : Reads B W4 aC lC fC := (HR.out.2.2.2.2.below x4).below (hB4.mono (by omega))
  go_cut [78] (fun v wx => ∃ a' c' oc, v = .slice a' lC c' ∧ Row wx (B + 9) 34 oc ∧ oc[4]? = some (.map none) ∧ oc[5]? = some (.slice a' lC c') ∧ oc[9]? = some (.slice none 0 0) ∧ oc[12]? = some (.bool false) ∧ c' ≤ 1024 ∧ Src wx (B + 10) a' lC fC ∧ Below (B + 9) W3 wx ∧ B + 10 ≤ wx.heap.size)
  case first =>
    have c5 := (hO4.cell 5).trans o5
    have f5 := hO4.frozen 5
    have HC : Hid _ := rC4
    have HO : Hid _ := hO4
    have HBB : Hid _ := hB4
    clear rC4 hO4 hB4
    cases aC with
    | none =>
      obtain ⟨rfl, rfl⟩ := HN.out.2 rfl
      go_wp2_with (go_at_call 5; refine (clone_nil W4).mono ?_; rintro e W5 ⟨rfl, rfl⟩)
      go_meet
      have ho := (Only.refl (B + 9) W5).setCell 5 (.slice none 0 0)
      exact ⟨none, 0, _, rfl, Row.set HO.out 5 _, by simp [o4], by simp [ol], by simp [o9], by simp [o12], by omega, src_nil _ _ _, Below.trans HBB.out (ho.below (Nat.le_refl _)), by rw [ho.size]; omega⟩
    | some x =>
      go_wp2_with (go_at_call 5; refine (clone_ok B x lC cC fC W4 hlC HC.out (by omega)).mono ?_; rintro e W5 ⟨rfl, s5, y1, y2⟩; have c5' : W5.cell? ⟨B + 9, 5, none⟩ = some (.slice none 0 0) := (Below.cell y2 (p := ⟨B + 9, 5, none⟩) (by show B + 9 < _; omega)).trans c5; have f5' : W5.frozen? ⟨B + 9, 5, none⟩ = false := (Row.below HO.out y2 (by omega)).frozen 5; have HY : Hid _ := And.intro y1 y2; clear y1 y2)
      go_meet
      obtain ⟨y1, y2⟩ := HY.out
      rw [hs4] at y1 y2 s5
      have ho := (Only.refl (B + 9) W5).setCell 5 (dn (B + 10) lC)
      have hr5 := (Row.below HO.out y2 (show B + 9 < B + 10 by omega)).set 5 (dn (B + 10) lC)
      exact ⟨_, lC, _, rfl, hr5, by simp [o4], by simp [ol], by simp [o9], by simp [o12], hlC, src_row ((row_clone y1).only ho (by omega)) (Nat.le_refl _), (Below.trans HBB.out (y2.mono (by omega))).trans (ho.below (Nat.le_refl _)), by rw [ho.size]; omega⟩
  case rest =>
    obtain ⟨a', c', oc, rfl, k1, k4, k5, k9, k12, hc', sC, kB, kz⟩ := hcut
    replace T0 := T0.below kB (by omega) (by omega) (by omega)
    replace T1 := T1.below kB (by omega) (by omega) (by omega)
    replace TH := TH.below kB (by omega) (by omega) (by omega)
    replace x4 := x4.trans (kB.mono (by omega))
    rename_i K hK
    subst hB
    exact hK _ _ (mid_ok (cF := cF) (cC := cC) (qR := qR) hlF hlC HB ⟨HR.out.1, HR.out.2.2.2.2⟩ HN T0 T1 TH k1 k4 k5 k9 k12 sC x4 kz)
end Follow
end Go.Proofs.YbulkcrmgDoor
