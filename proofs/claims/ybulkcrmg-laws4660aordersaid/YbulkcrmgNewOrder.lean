/-
  newOrder.
-/
import Derived.Test.YbulkcrmgLoops2
import Derived.Test.YbulkcrmgStart
namespace Go.Proofs.Ybulkcrmg
open Go.RowKit
namespace Order
open Kit

theorem Yba.info58 : (Yba.prog.info? 58).map (fun i => (i.zero, i.size, i.bytes)) = some (some (.slice none 0 0), 1, 24) := by kernel_rfl

theorem make58 (n : Nat) (hn : n ≤ 2000) (V : World) : (Instr.makeSlice 52 (.int .i64 n) (.int .i64 n)).run Yba.prog V = .ok (dn V.heap.size n) (V.alloc (.cells (List.replicate n (.slice none 0 0)).toArray 58)) := by
  obtain ⟨i0, hi, hz0, hz1, hz2⟩ := info_parts Yba.info58
  have h := run_make (P := Yba.prog) V 52 58 i0 (.slice none 0 0) Yba.underlying52 hi hz0 .i64 .i64 n n (by omega) (by omega) (by rw [hz2]; omega) (by omega)
  simp only [Int.toNat_natCast] at h
  rw [h, hz1, Nat.mul_one]
  congr 2
  rw [← toList_madeCells_one]
  simp [Value.cells]

theorem inv_at {W V : World} {bRul : Nat} {kd : Int} {bR bInd nR T : Nat} {rs : Nat → Nat} {listed : Array Bool} {a a' : Act} (h : Inv W bRul kd bR bInd nR T rs listed a V) (e : a' = a) : Inv W bRul kd bR bInd nR T rs listed a' V := e ▸ h

set_option maxRecDepth 100000 in
set_option maxHeartbeats 8000000 in
theorem newOrder_ok (bRul kd bR nR bInd T N nM nS bM bSe : Nat) (rs mI mR sA sB sK : Nat → Nat) (fI : Nat → Nat → Option Nat) (rc : List Value) (W : World) (G : Given W bRul bInd nR T N nM nS bM bSe mI mR sA sB sK fI rc) (hrs : ∀ i, rs i < 10) (hR : Row W bR 9 ((List.range nR).map (fun i => str (rs i)))) :
    Calls Yba.prog 5 #[ptr bRul, num kd, dn bR nR, .map (some bInd)] W (NewPost W bInd nR T nM nS kd rs mI mR sA sB sK fI) := by
  have hnR := G.hnR
  have hT := G.hT
  have hI := G.ind
  have HG : Hid _ := G
  clear G
  have hmix : Yba.prog.follows .mixedOrders = true := by kernel_rfl
  go_enter Yba.func5, Yba.ntmps5
  go_upto_region 1 with fail
  go_cut [9] (fun v wx => ∃ ob bN bB bA bH bL bS, v = ptr ob ∧ W.heap.size ≤ ob ∧ Row wx ob 56 [.map (some bN), .map (some bInd), dn bB nR, dn bA nR, dn bH T, dn bL nR, dn bS ((T + 63) / 64), .bool false] ∧ MadeO W wx bInd nR T rs (.agg #[.map (some bN), .map (some bInd), dn bB nR, dn bA nR, dn bH T, dn bL nR, dn bS ((T + 63) / 64), .bool false]) ∧ Below W.heap.size W wx)
  case first =>
    refine wp_region_any hmix (wpAny_inv (Inv W bRul kd bR bInd nR T rs) ?step ?fin _ _ _ _ ?init ?fuel)
    case fuel => decide
    case init =>
      refine ⟨fun _ => undef, rfl, ⟨rfl, rfl, rfl, Nat.le_refl _, fun _ _ => rfl⟩, fun i hi => ?_, fun i j hi => ?_, rfl⟩
      · simp [Array.getD] at hi
      · simp [Array.getD] at hi
    case step =>
      intro listed a V i hInv hi
      obtain ⟨xs, rfl, hB, hP, hD, hs21⟩ := hInv
      obtain ⟨h1, o, ho, hdep⟩ := mem_ready.1 hi
      have hlt : i < 21 := (Array.getElem?_eq_some_iff.1 ho).1
      obtain rfl | rfl | rfl | rfl | rfl | rfl | rfl | rfl | rfl | rfl | rfl | rfl | rfl | rfl | rfl | rfl | rfl | rfl | rfl | rfl | rfl : i = 0 ∨ i = 1 ∨ i = 2 ∨ i = 3 ∨ i = 4 ∨ i = 5 ∨ i = 6 ∨ i = 7 ∨ i = 8 ∨ i = 9 ∨ i = 10 ∨ i = 11 ∨ i = 12 ∨ i = 13 ∨ i = 14 ∨ i = 15 ∨ i = 16 ∨ i = 17 ∨ i = 18 ∨ i = 19 ∨ i = 20 := by omega
      · refine wpOp_step ho (fun K hK => ?_)
        have e := Option.some.inj ho
        subst e
        unfold frameOf
        go_simp
        exact hK _ _ (inv_next 0 (dn bR nR) hB hP hD (Below.refl _ _) rfl (fun h => by cases h) hs21)
      · refine wpOp_step ho (fun K hK => ?_)
        have e := Option.some.inj ho
        subst e
        have l0 : listed.getD 0 false = true := hdep { on := 0, ground := .data } (by simp) rfl
        have d0 : xs 0 = dn bR nR := hP 0 l0
        unfold frameOf
        go_simp
        refine (Index_ok bR nR rs V hnR hrs (hR.below hB hR.lt)).mono ?_
        rintro e V' ⟨rfl, hM, hb⟩
        exact hK _ _ (inv_at (inv_next 1 (.map (some V.heap.size)) hB hP hD hb ⟨_, rfl, hM, hB.size⟩ (fun h => by cases h) hs21) (by simp [frameOf, updX, d0]))
      · refine wpOp_step ho (fun K hK => ?_)
        have e := Option.some.inj ho
        subst e
        unfold frameOf
        go_simp
        exact hK _ _ (inv_next 2 (.map (some bInd)) hB hP hD (Below.refl _ _) rfl (fun h => by cases h) hs21)
      · refine wpOp_step ho (fun K hK => ?_)
        have e := Option.some.inj ho
        subst e
        unfold frameOf
        go_simp
        exact hK _ _ (inv_next 3 (dn bR nR) hB hP hD (Below.refl _ _) rfl (fun h => by cases h) hs21)
      · refine wpOp_step ho (fun K hK => ?_)
        have e := Option.some.inj ho
        subst e
        have l3 : listed.getD 3 false = true := hdep { on := 3, ground := .data } (by simp) rfl
        have d3 : xs 3 = dn bR nR := hP 3 l3
        unfold frameOf
        go_simp
        exact hK _ _ (inv_at (inv_next 4 (.int .i64 nR) hB hP hD (Below.refl _ _) rfl (fun h => by cases h) hs21) (by simp [frameOf, updX, d3]))
      · refine wpOp_step ho (fun K hK => ?_)
        have e := Option.some.inj ho
        subst e
        have l4 : listed.getD 4 false = true := hdep { on := 4, ground := .data } (by simp) rfl
        have d4 : xs 4 = .int .i64 nR := hP 4 l4
        have hmk := make58 nR (by omega) V
        unfold frameOf
        go_simp
        exact hK _ _ (inv_at (inv_next 5 (dn V.heap.size nR) hB hP hD ((Below.refl _ V).alloc (Nat.le_refl _) _) ⟨_, rfl, hB.size, Row.new V 58 _ _ rfl⟩ (fun _ => rfl) hs21) (by simp [frameOf, updX, d4]))
      · refine wpOp_step ho (fun K hK => ?_)
        have e := Option.some.inj ho
        subst e
        unfold frameOf
        go_simp
        exact hK _ _ (inv_next 6 (dn bR nR) hB hP hD (Below.refl _ _) rfl (fun h => by cases h) hs21)
      · refine wpOp_step ho (fun K hK => ?_)
        have e := Option.some.inj ho
        subst e
        have l6 : listed.getD 6 false = true := hdep { on := 6, ground := .data } (by simp) rfl
        have d6 : xs 6 = dn bR nR := hP 6 l6
        unfold frameOf
        go_simp
        exact hK _ _ (inv_at (inv_next 7 (.int .i64 nR) hB hP hD (Below.refl _ _) rfl (fun h => by cases h) hs21) (by simp [frameOf, updX, d6]))
      · refine wpOp_step ho (fun K hK => ?_)
        have e := Option.some.inj ho
        subst e
        have l7 : listed.getD 7 false = true := hdep { on := 7, ground := .data } (by simp) rfl
        have d7 : xs 7 = .int .i64 nR := hP 7 l7
        have hmk := make58 nR (by omega) V
        unfold frameOf
        go_simp
        exact hK _ _ (inv_at (inv_next 8 (dn V.heap.size nR) hB hP hD ((Below.refl _ V).alloc (Nat.le_refl _) _) ⟨_, rfl, hB.size, Row.new V 58 _ _ rfl⟩ (fun _ => rfl) hs21) (by simp [frameOf, updX, d7]))
      · refine wpOp_step ho (fun K hK => ?_)
        have e := Option.some.inj ho
        subst e
        unfold frameOf
        go_simp
        exact hK _ _ (inv_next 9 (.map (some bInd)) hB hP hD (Below.refl _ _) rfl (fun h => by cases h) hs21)
      · refine wpOp_step ho (fun K hK => ?_)
        have e := Option.some.inj ho
        subst e
        have l9 : listed.getD 9 false = true := hdep { on := 9, ground := .data } (by simp) rfl
        have d9 : xs 9 = .map (some bInd) := hP 9 l9
        have hl := (hI.below hB hI.lt).len
        unfold frameOf
        go_simp
        exact hK _ _ (inv_at (inv_next 10 (.int .i64 T) hB hP hD (Below.refl _ _) rfl (fun h => by cases h) hs21) (by simp [frameOf, updX, d9]))
      · refine wpOp_step ho (fun K hK => ?_)
        have e := Option.some.inj ho
        subst e
        have l10 : listed.getD 10 false = true := hdep { on := 10, ground := .data } (by simp) rfl
        have d10 : xs 10 = .int .i64 T := hP 10 l10
        have hmk := make58 T (by omega) V
        unfold frameOf
        go_simp
        exact hK _ _ (inv_at (inv_next 11 (dn V.heap.size T) hB hP hD ((Below.refl _ V).alloc (Nat.le_refl _) _) ⟨_, rfl, hB.size, Row.new V 58 _ _ rfl⟩ (fun _ => rfl) hs21) (by simp [frameOf, updX, d10]))
      · refine wpOp_step ho (fun K hK => ?_)
        have e := Option.some.inj ho
        subst e
        unfold frameOf
        go_simp
        exact hK _ _ (inv_next 12 (dn bR nR) hB hP hD (Below.refl _ _) rfl (fun h => by cases h) hs21)
      · refine wpOp_step ho (fun K hK => ?_)
        have e := Option.some.inj ho
        subst e
        have l12 : listed.getD 12 false = true := hdep { on := 12, ground := .data } (by simp) rfl
        have d12 : xs 12 = dn bR nR := hP 12 l12
        unfold frameOf
        go_simp
        exact hK _ _ (inv_at (inv_next 13 (.int .i64 nR) hB hP hD (Below.refl _ _) rfl (fun h => by cases h) hs21) (by simp [frameOf, updX, d12]))
      · refine wpOp_step ho (fun K hK => ?_)
        have e := Option.some.inj ho
        subst e
        have l13 : listed.getD 13 false = true := hdep { on := 13, ground := .data } (by simp) rfl
        have d13 : xs 13 = .int .i64 nR := hP 13 l13
        have hmk := make58 nR (by omega) V
        unfold frameOf
        go_simp
        exact hK _ _ (inv_at (inv_next 14 (dn V.heap.size nR) hB hP hD ((Below.refl _ V).alloc (Nat.le_refl _) _) ⟨_, rfl, hB.size, Row.new V 58 _ _ rfl⟩ (fun _ => rfl) hs21) (by simp [frameOf, updX, d13]))
      · refine wpOp_step ho (fun K hK => ?_)
        have e := Option.some.inj ho
        subst e
        unfold frameOf
        go_simp
        exact hK _ _ (inv_next 15 (.map (some bInd)) hB hP hD (Below.refl _ _) rfl (fun h => by cases h) hs21)
      · refine wpOp_step ho (fun K hK => ?_)
        have e := Option.some.inj ho
        subst e
        have l15 : listed.getD 15 false = true := hdep { on := 15, ground := .data } (by simp) rfl
        have d15 : xs 15 = .map (some bInd) := hP 15 l15
        have hl := (hI.below hB hI.lt).len
        unfold frameOf
        go_simp
        exact hK _ _ (inv_at (inv_next 16 (.int .i64 T) hB hP hD (Below.refl _ _) rfl (fun h => by cases h) hs21) (by simp [frameOf, updX, d15]))
      · refine wpOp_step ho (fun K hK => ?_)
        have e := Option.some.inj ho
        subst e
        have l16 : listed.getD 16 false = true := hdep { on := 16, ground := .data } (by simp) rfl
        have d16 : xs 16 = .int .i64 T := hP 16 l16
        unfold frameOf
        go_simp
        refine (New_ok T (by omega) V).mono ?_
        rintro e V' ⟨rfl, hs, hr, hb⟩
        exact hK _ _ (inv_at (inv_next 17 (dn V.heap.size ((T + 63) / 64)) hB hP hD hb ⟨_, rfl, hB.size, hr⟩ (fun h => by cases h) hs21) (by simp [frameOf, updX, d16]))
      · refine wpOp_step ho (fun K hK => ?_)
        have e := Option.some.inj ho
        subst e
        have l1 : listed.getD 1 false = true := hdep { on := 1, ground := .data } (by simp) rfl
        have l2 : listed.getD 2 false = true := hdep { on := 2, ground := .data } (by simp) rfl
        have d2 : xs 2 = .map (some bInd) := hP 2 l2
        have l5 : listed.getD 5 false = true := hdep { on := 5, ground := .data } (by simp) rfl
        have l8 : listed.getD 8 false = true := hdep { on := 8, ground := .data } (by simp) rfl
        have l11 : listed.getD 11 false = true := hdep { on := 11, ground := .data } (by simp) rfl
        have l14 : listed.getD 14 false = true := hdep { on := 14, ground := .data } (by simp) rfl
        have l17 : listed.getD 17 false = true := hdep { on := 17, ground := .data } (by simp) rfl
        obtain ⟨bN, x1, m1, m2⟩ := hP 1 l1
        obtain ⟨bB, x5, y5, z5⟩ := hP 5 l5
        obtain ⟨bA, x8, y8, z8⟩ := hP 8 l8
        obtain ⟨bH, x11, y11, z11⟩ := hP 11 l11
        obtain ⟨bL, x14, y14, z14⟩ := hP 14 l14
        obtain ⟨bS, x17, y17, z17⟩ := hP 17 l17
        have n1 : bB ≠ bA := fun e => hD 5 8 l5 l8 rfl rfl (by omega) (by rw [x5, x8, e])
        have n2 : bB ≠ bH := fun e => hD 5 11 l5 l11 rfl rfl (by omega) (by rw [x5, x11, e]; rfl)
        have n3 : bB ≠ bL := fun e => hD 5 14 l5 l14 rfl rfl (by omega) (by rw [x5, x14, e])
        have n4 : bA ≠ bH := fun e => hD 8 11 l8 l11 rfl rfl (by omega) (by rw [x8, x11, e]; rfl)
        have n5 : bA ≠ bL := fun e => hD 8 14 l8 l14 rfl rfl (by omega) (by rw [x8, x14, e])
        have n6 : bH ≠ bL := fun e => hD 11 14 l11 l14 rfl rfl (by omega) (by rw [x11, x14, e]; rfl)
        have fin : MadeO W V bInd nR T rs (.agg #[.map (some bN), .map (some bInd), dn bB nR, dn bA nR, dn bH T, dn bL nR, dn bS ((T + 63) / 64), .bool false]) := ⟨bN, bB, bA, bH, bL, bS, rfl, m1, m2, ⟨y5, z5⟩, ⟨y8, z8⟩, ⟨y11, z11⟩, ⟨y14, z14⟩, ⟨y17, z17⟩, n1, n2, n3, n4, n5, n6⟩
        have HF : Hid _ := fin
        clear fin n1 n2 n3 n4 n5 n6 z5 z8 z11 z14 z17 m1
        unfold frameOf
        go_simp
        exact hK _ _ (inv_at (inv_next 18 _ hB hP hD (Below.refl _ _) HF.out (fun h => by cases h) hs21) (by simp [frameOf, updX, x1, d2, x5, x8, x11, x14, x17]))
      · refine wpOp_step ho (fun K hK => ?_)
        have e := Option.some.inj ho
        subst e
        have l18 : listed.getD 18 false = true := hdep { on := 18, ground := .data } (by simp) rfl
        have h18 : MadeO W V bInd nR T rs (xs 18) := hP 18 l18
        obtain ⟨bN, bB, bA, bH, bL, bS, x18, rest⟩ := h18
        have HF : Hid (MadeO W V bInd nR T rs (.agg #[.map (some bN), .map (some bInd), dn bB nR, dn bA nR, dn bH T, dn bL nR, dn bS ((T + 63) / 64), .bool false])) := ⟨bN, bB, bA, bH, bL, bS, rfl, rest⟩
        clear rest
        unfold frameOf
        go_simp
        exact hK _ _ (inv_at (inv_next 19 (ptr V.heap.size) hB hP hD ((Below.refl _ V).alloc (Nat.le_refl _) _) ⟨V.heap.size, [.map (some bN), .map (some bInd), dn bB nR, dn bA nR, dn bH T, dn bL nR, dn bS ((T + 63) / 64), .bool false], rfl, hB.size, Row.new V 56 _ _ rfl, HF.out.below ((Below.refl _ V).alloc (Nat.le_refl _) _)⟩ (fun h => by cases h) hs21) (by simp [frameOf, updX, x18]))
      · refine wpOp_step ho (fun K hK => ?_)
        have e := Option.some.inj ho
        subst e
        have l19 : listed.getD 19 false = true := hdep { on := 19, ground := .data } (by simp) rfl
        obtain ⟨ob, cs, x19, y19, z19, w19⟩ := hP 19 l19
        have HF : Hid _ := And.intro y19 (And.intro z19 w19)
        clear y19 z19 w19
        unfold frameOf
        go_simp
        exact hK _ _ (inv_at (inv_next 20 (ptr ob) hB hP hD (Below.refl _ _) ⟨ob, cs, rfl, HF.out⟩ (fun h => by cases h) hs21) (by simp [frameOf, updX, x19]))
    case fin =>
      intro listed a V hInv hr
      obtain ⟨xs, rfl, hB, hP, hD, hs21⟩ := hInv
      have L20 : listed.getD 20 false = true := by
        have key : ∀ (i : Nat) (o : Oper), _ → (∀ e ∈ o.after, Region.binds .any e = true → listed.getD e.on false = true) → i < 21 → listed.getD i false = true := fun i o (ho : _[i]? = some o) hd hi => by
          cases hl : listed.getD i false with
          | true => rfl
          | false =>
            have hm := mem_ready.2 ⟨(show listed.getD i true = false by simp [Array.getD, hs21, hi] at hl ⊢; exact hl), o, ho, hd⟩
            rw [hr] at hm
            cases hm
        have A0 : ∀ j, j < 0 → listed.getD j false = true := fun j h => by omega
        have L0 := key 0 _ rfl (fun e he _ => A0 _ (by first | (simp at he; subst he; decide) | (simp at he; rcases he with rfl | rfl <;> decide) | (simp at he; rcases he with rfl | rfl | rfl <;> decide) | (simp at he; rcases he with rfl | rfl | rfl | rfl <;> decide) | (simp at he; rcases he with rfl | rfl | rfl | rfl | rfl <;> decide) | (simp at he; rcases he with rfl | rfl | rfl | rfl | rfl | rfl <;> decide) | (simp at he; rcases he with rfl | rfl | rfl | rfl | rfl | rfl | rfl <;> decide) | (simp at he; rcases he with rfl | rfl | rfl | rfl | rfl | rfl | rfl | rfl <;> decide) | (simp at he; rcases he with rfl | rfl | rfl | rfl | rfl | rfl | rfl | rfl | rfl <;> decide) | (revert he; revert e; simp; done))) (by omega)
        have A1 : ∀ j, j < 1 → listed.getD j false = true := fun j h => by
          rcases Nat.lt_or_eq_of_le (Nat.le_of_lt_succ h) with h | rfl
          · exact A0 j h
          · exact L0
        have L1 := key 1 _ rfl (fun e he _ => A1 _ (by first | (simp at he; subst he; decide) | (simp at he; rcases he with rfl | rfl <;> decide) | (simp at he; rcases he with rfl | rfl | rfl <;> decide) | (simp at he; rcases he with rfl | rfl | rfl | rfl <;> decide) | (simp at he; rcases he with rfl | rfl | rfl | rfl | rfl <;> decide) | (simp at he; rcases he with rfl | rfl | rfl | rfl | rfl | rfl <;> decide) | (simp at he; rcases he with rfl | rfl | rfl | rfl | rfl | rfl | rfl <;> decide) | (simp at he; rcases he with rfl | rfl | rfl | rfl | rfl | rfl | rfl | rfl <;> decide) | (simp at he; rcases he with rfl | rfl | rfl | rfl | rfl | rfl | rfl | rfl | rfl <;> decide) | (revert he; revert e; simp; done))) (by omega)
        have A2 : ∀ j, j < 2 → listed.getD j false = true := fun j h => by
          rcases Nat.lt_or_eq_of_le (Nat.le_of_lt_succ h) with h | rfl
          · exact A1 j h
          · exact L1
        have L2 := key 2 _ rfl (fun e he _ => A2 _ (by first | (simp at he; subst he; decide) | (simp at he; rcases he with rfl | rfl <;> decide) | (simp at he; rcases he with rfl | rfl | rfl <;> decide) | (simp at he; rcases he with rfl | rfl | rfl | rfl <;> decide) | (simp at he; rcases he with rfl | rfl | rfl | rfl | rfl <;> decide) | (simp at he; rcases he with rfl | rfl | rfl | rfl | rfl | rfl <;> decide) | (simp at he; rcases he with rfl | rfl | rfl | rfl | rfl | rfl | rfl <;> decide) | (simp at he; rcases he with rfl | rfl | rfl | rfl | rfl | rfl | rfl | rfl <;> decide) | (simp at he; rcases he with rfl | rfl | rfl | rfl | rfl | rfl | rfl | rfl | rfl <;> decide) | (revert he; revert e; simp; done))) (by omega)
        have A3 : ∀ j, j < 3 → listed.getD j false = true := fun j h => by
          rcases Nat.lt_or_eq_of_le (Nat.le_of_lt_succ h) with h | rfl
          · exact A2 j h
          · exact L2
        have L3 := key 3 _ rfl (fun e he _ => A3 _ (by first | (simp at he; subst he; decide) | (simp at he; rcases he with rfl | rfl <;> decide) | (simp at he; rcases he with rfl | rfl | rfl <;> decide) | (simp at he; rcases he with rfl | rfl | rfl | rfl <;> decide) | (simp at he; rcases he with rfl | rfl | rfl | rfl | rfl <;> decide) | (simp at he; rcases he with rfl | rfl | rfl | rfl | rfl | rfl <;> decide) | (simp at he; rcases he with rfl | rfl | rfl | rfl | rfl | rfl | rfl <;> decide) | (simp at he; rcases he with rfl | rfl | rfl | rfl | rfl | rfl | rfl | rfl <;> decide) | (simp at he; rcases he with rfl | rfl | rfl | rfl | rfl | rfl | rfl | rfl | rfl <;> decide) | (revert he; revert e; simp; done))) (by omega)
        have A4 : ∀ j, j < 4 → listed.getD j false = true := fun j h => by
          rcases Nat.lt_or_eq_of_le (Nat.le_of_lt_succ h) with h | rfl
          · exact A3 j h
          · exact L3
        have L4 := key 4 _ rfl (fun e he _ => A4 _ (by first | (simp at he; subst he; decide) | (simp at he; rcases he with rfl | rfl <;> decide) | (simp at he; rcases he with rfl | rfl | rfl <;> decide) | (simp at he; rcases he with rfl | rfl | rfl | rfl <;> decide) | (simp at he; rcases he with rfl | rfl | rfl | rfl | rfl <;> decide) | (simp at he; rcases he with rfl | rfl | rfl | rfl | rfl | rfl <;> decide) | (simp at he; rcases he with rfl | rfl | rfl | rfl | rfl | rfl | rfl <;> decide) | (simp at he; rcases he with rfl | rfl | rfl | rfl | rfl | rfl | rfl | rfl <;> decide) | (simp at he; rcases he with rfl | rfl | rfl | rfl | rfl | rfl | rfl | rfl | rfl <;> decide) | (revert he; revert e; simp; done))) (by omega)
        have A5 : ∀ j, j < 5 → listed.getD j false = true := fun j h => by
          rcases Nat.lt_or_eq_of_le (Nat.le_of_lt_succ h) with h | rfl
          · exact A4 j h
          · exact L4
        have L5 := key 5 _ rfl (fun e he _ => A5 _ (by first | (simp at he; subst he; decide) | (simp at he; rcases he with rfl | rfl <;> decide) | (simp at he; rcases he with rfl | rfl | rfl <;> decide) | (simp at he; rcases he with rfl | rfl | rfl | rfl <;> decide) | (simp at he; rcases he with rfl | rfl | rfl | rfl | rfl <;> decide) | (simp at he; rcases he with rfl | rfl | rfl | rfl | rfl | rfl <;> decide) | (simp at he; rcases he with rfl | rfl | rfl | rfl | rfl | rfl | rfl <;> decide) | (simp at he; rcases he with rfl | rfl | rfl | rfl | rfl | rfl | rfl | rfl <;> decide) | (simp at he; rcases he with rfl | rfl | rfl | rfl | rfl | rfl | rfl | rfl | rfl <;> decide) | (revert he; revert e; simp; done))) (by omega)
        have A6 : ∀ j, j < 6 → listed.getD j false = true := fun j h => by
          rcases Nat.lt_or_eq_of_le (Nat.le_of_lt_succ h) with h | rfl
          · exact A5 j h
          · exact L5
        have L6 := key 6 _ rfl (fun e he _ => A6 _ (by first | (simp at he; subst he; decide) | (simp at he; rcases he with rfl | rfl <;> decide) | (simp at he; rcases he with rfl | rfl | rfl <;> decide) | (simp at he; rcases he with rfl | rfl | rfl | rfl <;> decide) | (simp at he; rcases he with rfl | rfl | rfl | rfl | rfl <;> decide) | (simp at he; rcases he with rfl | rfl | rfl | rfl | rfl | rfl <;> decide) | (simp at he; rcases he with rfl | rfl | rfl | rfl | rfl | rfl | rfl <;> decide) | (simp at he; rcases he with rfl | rfl | rfl | rfl | rfl | rfl | rfl | rfl <;> decide) | (simp at he; rcases he with rfl | rfl | rfl | rfl | rfl | rfl | rfl | rfl | rfl <;> decide) | (revert he; revert e; simp; done))) (by omega)
        have A7 : ∀ j, j < 7 → listed.getD j false = true := fun j h => by
          rcases Nat.lt_or_eq_of_le (Nat.le_of_lt_succ h) with h | rfl
          · exact A6 j h
          · exact L6
        have L7 := key 7 _ rfl (fun e he _ => A7 _ (by first | (simp at he; subst he; decide) | (simp at he; rcases he with rfl | rfl <;> decide) | (simp at he; rcases he with rfl | rfl | rfl <;> decide) | (simp at he; rcases he with rfl | rfl | rfl | rfl <;> decide) | (simp at he; rcases he with rfl | rfl | rfl | rfl | rfl <;> decide) | (simp at he; rcases he with rfl | rfl | rfl | rfl | rfl | rfl <;> decide) | (simp at he; rcases he with rfl | rfl | rfl | rfl | rfl | rfl | rfl <;> decide) | (simp at he; rcases he with rfl | rfl | rfl | rfl | rfl | rfl | rfl | rfl <;> decide) | (simp at he; rcases he with rfl | rfl | rfl | rfl | rfl | rfl | rfl | rfl | rfl <;> decide) | (revert he; revert e; simp; done))) (by omega)
        have A8 : ∀ j, j < 8 → listed.getD j false = true := fun j h => by
          rcases Nat.lt_or_eq_of_le (Nat.le_of_lt_succ h) with h | rfl
          · exact A7 j h
          · exact L7
        have L8 := key 8 _ rfl (fun e he _ => A8 _ (by first | (simp at he; subst he; decide) | (simp at he; rcases he with rfl | rfl <;> decide) | (simp at he; rcases he with rfl | rfl | rfl <;> decide) | (simp at he; rcases he with rfl | rfl | rfl | rfl <;> decide) | (simp at he; rcases he with rfl | rfl | rfl | rfl | rfl <;> decide) | (simp at he; rcases he with rfl | rfl | rfl | rfl | rfl | rfl <;> decide) | (simp at he; rcases he with rfl | rfl | rfl | rfl | rfl | rfl | rfl <;> decide) | (simp at he; rcases he with rfl | rfl | rfl | rfl | rfl | rfl | rfl | rfl <;> decide) | (simp at he; rcases he with rfl | rfl | rfl | rfl | rfl | rfl | rfl | rfl | rfl <;> decide) | (revert he; revert e; simp; done))) (by omega)
        have A9 : ∀ j, j < 9 → listed.getD j false = true := fun j h => by
          rcases Nat.lt_or_eq_of_le (Nat.le_of_lt_succ h) with h | rfl
          · exact A8 j h
          · exact L8
        have L9 := key 9 _ rfl (fun e he _ => A9 _ (by first | (simp at he; subst he; decide) | (simp at he; rcases he with rfl | rfl <;> decide) | (simp at he; rcases he with rfl | rfl | rfl <;> decide) | (simp at he; rcases he with rfl | rfl | rfl | rfl <;> decide) | (simp at he; rcases he with rfl | rfl | rfl | rfl | rfl <;> decide) | (simp at he; rcases he with rfl | rfl | rfl | rfl | rfl | rfl <;> decide) | (simp at he; rcases he with rfl | rfl | rfl | rfl | rfl | rfl | rfl <;> decide) | (simp at he; rcases he with rfl | rfl | rfl | rfl | rfl | rfl | rfl | rfl <;> decide) | (simp at he; rcases he with rfl | rfl | rfl | rfl | rfl | rfl | rfl | rfl | rfl <;> decide) | (revert he; revert e; simp; done))) (by omega)
        have A10 : ∀ j, j < 10 → listed.getD j false = true := fun j h => by
          rcases Nat.lt_or_eq_of_le (Nat.le_of_lt_succ h) with h | rfl
          · exact A9 j h
          · exact L9
        have L10 := key 10 _ rfl (fun e he _ => A10 _ (by first | (simp at he; subst he; decide) | (simp at he; rcases he with rfl | rfl <;> decide) | (simp at he; rcases he with rfl | rfl | rfl <;> decide) | (simp at he; rcases he with rfl | rfl | rfl | rfl <;> decide) | (simp at he; rcases he with rfl | rfl | rfl | rfl | rfl <;> decide) | (simp at he; rcases he with rfl | rfl | rfl | rfl | rfl | rfl <;> decide) | (simp at he; rcases he with rfl | rfl | rfl | rfl | rfl | rfl | rfl <;> decide) | (simp at he; rcases he with rfl | rfl | rfl | rfl | rfl | rfl | rfl | rfl <;> decide) | (simp at he; rcases he with rfl | rfl | rfl | rfl | rfl | rfl | rfl | rfl | rfl <;> decide) | (revert he; revert e; simp; done))) (by omega)
        have A11 : ∀ j, j < 11 → listed.getD j false = true := fun j h => by
          rcases Nat.lt_or_eq_of_le (Nat.le_of_lt_succ h) with h | rfl
          · exact A10 j h
          · exact L10
        have L11 := key 11 _ rfl (fun e he _ => A11 _ (by first | (simp at he; subst he; decide) | (simp at he; rcases he with rfl | rfl <;> decide) | (simp at he; rcases he with rfl | rfl | rfl <;> decide) | (simp at he; rcases he with rfl | rfl | rfl | rfl <;> decide) | (simp at he; rcases he with rfl | rfl | rfl | rfl | rfl <;> decide) | (simp at he; rcases he with rfl | rfl | rfl | rfl | rfl | rfl <;> decide) | (simp at he; rcases he with rfl | rfl | rfl | rfl | rfl | rfl | rfl <;> decide) | (simp at he; rcases he with rfl | rfl | rfl | rfl | rfl | rfl | rfl | rfl <;> decide) | (simp at he; rcases he with rfl | rfl | rfl | rfl | rfl | rfl | rfl | rfl | rfl <;> decide) | (revert he; revert e; simp; done))) (by omega)
        have A12 : ∀ j, j < 12 → listed.getD j false = true := fun j h => by
          rcases Nat.lt_or_eq_of_le (Nat.le_of_lt_succ h) with h | rfl
          · exact A11 j h
          · exact L11
        have L12 := key 12 _ rfl (fun e he _ => A12 _ (by first | (simp at he; subst he; decide) | (simp at he; rcases he with rfl | rfl <;> decide) | (simp at he; rcases he with rfl | rfl | rfl <;> decide) | (simp at he; rcases he with rfl | rfl | rfl | rfl <;> decide) | (simp at he; rcases he with rfl | rfl | rfl | rfl | rfl <;> decide) | (simp at he; rcases he with rfl | rfl | rfl | rfl | rfl | rfl <;> decide) | (simp at he; rcases he with rfl | rfl | rfl | rfl | rfl | rfl | rfl <;> decide) | (simp at he; rcases he with rfl | rfl | rfl | rfl | rfl | rfl | rfl | rfl <;> decide) | (simp at he; rcases he with rfl | rfl | rfl | rfl | rfl | rfl | rfl | rfl | rfl <;> decide) | (revert he; revert e; simp; done))) (by omega)
        have A13 : ∀ j, j < 13 → listed.getD j false = true := fun j h => by
          rcases Nat.lt_or_eq_of_le (Nat.le_of_lt_succ h) with h | rfl
          · exact A12 j h
          · exact L12
        have L13 := key 13 _ rfl (fun e he _ => A13 _ (by first | (simp at he; subst he; decide) | (simp at he; rcases he with rfl | rfl <;> decide) | (simp at he; rcases he with rfl | rfl | rfl <;> decide) | (simp at he; rcases he with rfl | rfl | rfl | rfl <;> decide) | (simp at he; rcases he with rfl | rfl | rfl | rfl | rfl <;> decide) | (simp at he; rcases he with rfl | rfl | rfl | rfl | rfl | rfl <;> decide) | (simp at he; rcases he with rfl | rfl | rfl | rfl | rfl | rfl | rfl <;> decide) | (simp at he; rcases he with rfl | rfl | rfl | rfl | rfl | rfl | rfl | rfl <;> decide) | (simp at he; rcases he with rfl | rfl | rfl | rfl | rfl | rfl | rfl | rfl | rfl <;> decide) | (revert he; revert e; simp; done))) (by omega)
        have A14 : ∀ j, j < 14 → listed.getD j false = true := fun j h => by
          rcases Nat.lt_or_eq_of_le (Nat.le_of_lt_succ h) with h | rfl
          · exact A13 j h
          · exact L13
        have L14 := key 14 _ rfl (fun e he _ => A14 _ (by first | (simp at he; subst he; decide) | (simp at he; rcases he with rfl | rfl <;> decide) | (simp at he; rcases he with rfl | rfl | rfl <;> decide) | (simp at he; rcases he with rfl | rfl | rfl | rfl <;> decide) | (simp at he; rcases he with rfl | rfl | rfl | rfl | rfl <;> decide) | (simp at he; rcases he with rfl | rfl | rfl | rfl | rfl | rfl <;> decide) | (simp at he; rcases he with rfl | rfl | rfl | rfl | rfl | rfl | rfl <;> decide) | (simp at he; rcases he with rfl | rfl | rfl | rfl | rfl | rfl | rfl | rfl <;> decide) | (simp at he; rcases he with rfl | rfl | rfl | rfl | rfl | rfl | rfl | rfl | rfl <;> decide) | (revert he; revert e; simp; done))) (by omega)
        have A15 : ∀ j, j < 15 → listed.getD j false = true := fun j h => by
          rcases Nat.lt_or_eq_of_le (Nat.le_of_lt_succ h) with h | rfl
          · exact A14 j h
          · exact L14
        have L15 := key 15 _ rfl (fun e he _ => A15 _ (by first | (simp at he; subst he; decide) | (simp at he; rcases he with rfl | rfl <;> decide) | (simp at he; rcases he with rfl | rfl | rfl <;> decide) | (simp at he; rcases he with rfl | rfl | rfl | rfl <;> decide) | (simp at he; rcases he with rfl | rfl | rfl | rfl | rfl <;> decide) | (simp at he; rcases he with rfl | rfl | rfl | rfl | rfl | rfl <;> decide) | (simp at he; rcases he with rfl | rfl | rfl | rfl | rfl | rfl | rfl <;> decide) | (simp at he; rcases he with rfl | rfl | rfl | rfl | rfl | rfl | rfl | rfl <;> decide) | (simp at he; rcases he with rfl | rfl | rfl | rfl | rfl | rfl | rfl | rfl | rfl <;> decide) | (revert he; revert e; simp; done))) (by omega)
        have A16 : ∀ j, j < 16 → listed.getD j false = true := fun j h => by
          rcases Nat.lt_or_eq_of_le (Nat.le_of_lt_succ h) with h | rfl
          · exact A15 j h
          · exact L15
        have L16 := key 16 _ rfl (fun e he _ => A16 _ (by first | (simp at he; subst he; decide) | (simp at he; rcases he with rfl | rfl <;> decide) | (simp at he; rcases he with rfl | rfl | rfl <;> decide) | (simp at he; rcases he with rfl | rfl | rfl | rfl <;> decide) | (simp at he; rcases he with rfl | rfl | rfl | rfl | rfl <;> decide) | (simp at he; rcases he with rfl | rfl | rfl | rfl | rfl | rfl <;> decide) | (simp at he; rcases he with rfl | rfl | rfl | rfl | rfl | rfl | rfl <;> decide) | (simp at he; rcases he with rfl | rfl | rfl | rfl | rfl | rfl | rfl | rfl <;> decide) | (simp at he; rcases he with rfl | rfl | rfl | rfl | rfl | rfl | rfl | rfl | rfl <;> decide) | (revert he; revert e; simp; done))) (by omega)
        have A17 : ∀ j, j < 17 → listed.getD j false = true := fun j h => by
          rcases Nat.lt_or_eq_of_le (Nat.le_of_lt_succ h) with h | rfl
          · exact A16 j h
          · exact L16
        have L17 := key 17 _ rfl (fun e he _ => A17 _ (by first | (simp at he; subst he; decide) | (simp at he; rcases he with rfl | rfl <;> decide) | (simp at he; rcases he with rfl | rfl | rfl <;> decide) | (simp at he; rcases he with rfl | rfl | rfl | rfl <;> decide) | (simp at he; rcases he with rfl | rfl | rfl | rfl | rfl <;> decide) | (simp at he; rcases he with rfl | rfl | rfl | rfl | rfl | rfl <;> decide) | (simp at he; rcases he with rfl | rfl | rfl | rfl | rfl | rfl | rfl <;> decide) | (simp at he; rcases he with rfl | rfl | rfl | rfl | rfl | rfl | rfl | rfl <;> decide) | (simp at he; rcases he with rfl | rfl | rfl | rfl | rfl | rfl | rfl | rfl | rfl <;> decide) | (revert he; revert e; simp; done))) (by omega)
        have A18 : ∀ j, j < 18 → listed.getD j false = true := fun j h => by
          rcases Nat.lt_or_eq_of_le (Nat.le_of_lt_succ h) with h | rfl
          · exact A17 j h
          · exact L17
        have L18 := key 18 _ rfl (fun e he _ => A18 _ (by first | (simp at he; subst he; decide) | (simp at he; rcases he with rfl | rfl <;> decide) | (simp at he; rcases he with rfl | rfl | rfl <;> decide) | (simp at he; rcases he with rfl | rfl | rfl | rfl <;> decide) | (simp at he; rcases he with rfl | rfl | rfl | rfl | rfl <;> decide) | (simp at he; rcases he with rfl | rfl | rfl | rfl | rfl | rfl <;> decide) | (simp at he; rcases he with rfl | rfl | rfl | rfl | rfl | rfl | rfl <;> decide) | (simp at he; rcases he with rfl | rfl | rfl | rfl | rfl | rfl | rfl | rfl <;> decide) | (simp at he; rcases he with rfl | rfl | rfl | rfl | rfl | rfl | rfl | rfl | rfl <;> decide) | (revert he; revert e; simp; done))) (by omega)
        have A19 : ∀ j, j < 19 → listed.getD j false = true := fun j h => by
          rcases Nat.lt_or_eq_of_le (Nat.le_of_lt_succ h) with h | rfl
          · exact A18 j h
          · exact L18
        have L19 := key 19 _ rfl (fun e he _ => A19 _ (by first | (simp at he; subst he; decide) | (simp at he; rcases he with rfl | rfl <;> decide) | (simp at he; rcases he with rfl | rfl | rfl <;> decide) | (simp at he; rcases he with rfl | rfl | rfl | rfl <;> decide) | (simp at he; rcases he with rfl | rfl | rfl | rfl | rfl <;> decide) | (simp at he; rcases he with rfl | rfl | rfl | rfl | rfl | rfl <;> decide) | (simp at he; rcases he with rfl | rfl | rfl | rfl | rfl | rfl | rfl <;> decide) | (simp at he; rcases he with rfl | rfl | rfl | rfl | rfl | rfl | rfl | rfl <;> decide) | (simp at he; rcases he with rfl | rfl | rfl | rfl | rfl | rfl | rfl | rfl | rfl <;> decide) | (revert he; revert e; simp; done))) (by omega)
        have A20 : ∀ j, j < 20 → listed.getD j false = true := fun j h => by
          rcases Nat.lt_or_eq_of_le (Nat.le_of_lt_succ h) with h | rfl
          · exact A19 j h
          · exact L19
        have L20 := key 20 _ rfl (fun e he _ => A20 _ (by first | (simp at he; rcases he with rfl | rfl | rfl | rfl | rfl | rfl | rfl | rfl | rfl | rfl | rfl | rfl | rfl | rfl | rfl | rfl | rfl | rfl | rfl | rfl | rfl | rfl <;> decide) | (simp at he; rcases he with rfl | rfl <;> decide) | (simp at he; rcases he with rfl | rfl | rfl <;> decide) | (simp at he; rcases he with rfl | rfl | rfl | rfl <;> decide) | (simp at he; rcases he with rfl | rfl | rfl | rfl | rfl <;> decide) | (simp at he; rcases he with rfl | rfl | rfl | rfl | rfl | rfl <;> decide) | (simp at he; rcases he with rfl | rfl | rfl | rfl | rfl | rfl | rfl <;> decide) | (simp at he; rcases he with rfl | rfl | rfl | rfl | rfl | rfl | rfl | rfl <;> decide) | (simp at he; rcases he with rfl | rfl | rfl | rfl | rfl | rfl | rfl | rfl | rfl <;> decide) | (revert he; revert e; simp; done))) (by omega)
        exact L20
      obtain ⟨ob, cs, x20, h1, h2, h3⟩ := hP 20 L20
      obtain ⟨bN, bB, bA, bH, bL, bS, hcs, rest⟩ := h3
      have ecs : cs = [.map (some bN), .map (some bInd), dn bB nR, dn bA nR, dn bH T, dn bL nR, dn bS ((T + 63) / 64), .bool false] := by
        have h := congrArg (fun v => match v with | Value.agg c => c.toList | _ => []) hcs
        simpa using h
      subst ecs
      have HF : Hid _ := And.intro h1 (And.intro h2 rest)
      clear h1 h2 rest hcs
      unfold frameOf
      dsimp only
      rw [x20]
      go_wp2
      go_meet
      exact ⟨ob, bN, bB, bA, bH, bL, bS, rfl, HF.out.1, HF.out.2.1, ⟨bN, bB, bA, bH, bL, bS, rfl, HF.out.2.2⟩, hB⟩
  case rest =>
    obtain ⟨ob, bN, bB, bA, bH, bL, bS, rfl, q1, q2, q3, q4⟩ := hcut
    rename_i K hK
    exact hK _ _ (loop1 HG.out (made_st q1 q2 q3 q4) (fun h => loop2 HG.out h (fun h => loop3 HG.out h)))
end Order
end Go.Proofs.Ybulkcrmg
