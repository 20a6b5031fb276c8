/-
  The proof of 'Rows.LawS4660AOrderSaid': the frame is that of the shelf's shells; the walk: YbulkcrmgLaw.
-/
import Derived.Test.YbulkcrmgLaw
import Derived.Test.YbulkcrmgOpen
namespace Go.Proofs.Ybulkcrmg.lawS4660AOrder
open Go.ChangeShapes Go.WideShapes Go.ChangeAt Go.RowKit
set_option linter.unusedVariables false

theorem own : ownKnob Yba.prog.godebug = none := by kernel_rfl
theorem laidOut : laidOutB Yba.prog = true := by kernel_rfl

set_option maxRecDepth 1000000 in
set_option maxHeartbeats 16000000 in
theorem far (aR aM aS : Option Addr) (nR cR nM cM nS cS ex kd : Nat) (w : World) (h : ¬ (nR ≤ 1024 ∧ nM ≤ 1024 ∧ nS ≤ 1024)) :
    Calls Yba.prog 3 #[.slice aR nR cR, .slice aM nM cM, .slice aS nS cS, .int .u8 ex, .int .u8 kd] w fun e w' => e = .returned (.bool true) ∧ Below w.heap.size w w' := by
  by_cases h0 : nR ≤ 1024
  · have d0 : decide ((1024 : Int) < (nR : Int)) = false := by simp; omega
    by_cases h1 : nM ≤ 1024
    · have d1 : decide ((1024 : Int) < (nM : Int)) = false := by simp; omega
      have d2 : decide ((1024 : Int) < (nS : Int)) = true := by simp; omega
      clear h h0 h1
      go_enter Yba.func3, Yba.ntmps3
      go_wp2
      go_ret
      exact ⟨rfl, Below.refl _ _⟩
    · have d1 : decide ((1024 : Int) < (nM : Int)) = true := by simp; omega
      clear h h0 h1
      go_enter Yba.func3, Yba.ntmps3
      go_wp2
      go_ret
      exact ⟨rfl, Below.refl _ _⟩
  · have d0 : decide ((1024 : Int) < (nR : Int)) = true := by simp; omega
    clear h h0
    go_enter Yba.func3, Yba.ntmps3
    go_wp2
    go_ret
    exact ⟨rfl, Below.refl _ _⟩

set_option maxRecDepth 100000 in
theorem lifted (os : Os) (started : os.Started) (H : Type) (enc : TypeId × Value → H) :
    ReturnsInHanded {} Yba.checked os 3 .any (Rows.lawS4660AOrderSpec.pre6 enc Yba.prog Yba.f3 Rows.lawS4660AOrderRow.domain false) (Rows.lawS4660AOrderSpec.post enc Yba.prog Yba.f3 false true false false) := by
  refine returnsInHanded_of_change (C := Yba.checked) own started (by kernel_rfl) Yba.func3
    (ChangeSpec.witness6 (enc := enc) (C := Yba.checked) false ⟨#[], #[.slice none 0 0, .slice none 0 0, .slice none 0 0, .int .u8 0, .int .u8 0], []⟩ 8 (by kernel_rfl) (by kernel_rfl) (by kernel_rfl) (by kernel_rfl)) ?_
  intro W base args ds gs before hval0 hW hcnd _
  have hval : ∀ (j : Nat) t v, Yba.f3.params[j]? = some t → args[j]? = some v → Value.okWide Yba.prog W .any base t v := hval0
  have hW' := hW
  obtain ⟨p, q, hA0, hV, rfl, hfz, hnd⟩ := hW
  have hA : DataW.TrodAll enc Yba.prog W 0 (fun _ => true) true Yba.f3.params.toList args.toList ds p := hA0
  rw [Yba.params3] at hA hval
  obtain ⟨v0, vs0, d0, ds0, p0, q0, hargs, rfl, rfl, h0, r0⟩ := trodAll_cons hA
  obtain ⟨v1, vs1, d1, ds1, p1, q1, rfl, rfl, rfl, h1, r1⟩ := trodAll_cons r0
  obtain ⟨v2, vs2, d2, ds2, p2, q2, rfl, rfl, rfl, h2, r2⟩ := trodAll_cons r1
  obtain ⟨v3, vs3, d3, ds3, p3, q3, rfl, rfl, rfl, h3, r3⟩ := trodAll_cons r2
  obtain ⟨v4, vs4, d4, ds4, p4, q4, rfl, rfl, rfl, h4, r4⟩ := trodAll_cons r3
  obtain ⟨rfl, rfl, rfl⟩ := trodAll_nil r4
  obtain rfl : args = #[v0, v1, v2, v3, v4] := by cases args; simp_all
  obtain ⟨rfl, rfl⟩ := trodVars_none hV
  obtain ⟨a0, len0, cap0, rfl⟩ := okWide_slice Yba.underlying22 (hval 0 22 v0 rfl rfl)
  obtain ⟨a1, len1, cap1, rfl⟩ := okWide_slice Yba.underlying23 (hval 1 23 v1 rfl rfl)
  obtain ⟨a2, len2, cap2, rfl⟩ := okWide_slice Yba.underlying24 (hval 2 24 v2 rfl rfl)
  have k0 := h0
  have k1 := h1
  have k2 := h2
  have lt0 : ∀ x ∈ p0, x.block < W.heap.size := by obtain ⟨m, hm⟩ := k0; exact DataW.trod_lt m _ _ _ hm
  have lt1 : ∀ x ∈ p1, x.block < W.heap.size := by obtain ⟨m, hm⟩ := k1; exact DataW.trod_lt m _ _ _ hm
  have lt2 : ∀ x ∈ p2, x.block < W.heap.size := by obtain ⟨m, hm⟩ := k2; exact DataW.trod_lt m _ _ _ hm
  obtain ⟨o0, x0, z0⟩ := Open.open_bytes h0
  obtain ⟨o1, x1, y1, z1⟩ := Open.open_pairs h1
  obtain ⟨o2, x2, y2, t2, z2⟩ := Open.open_triples h2
  obtain ⟨n3, rfl, rfl, rfl, w3⟩ := open_int Yba.underlying5 (hval 3 5 v3 rfl rfl) h3
  obtain ⟨n4, rfl, rfl, rfl, w4⟩ := open_int Yba.underlying5 (hval 4 5 v4 rfl rfl) h4
  obtain ⟨m3, rfl, b3⟩ := Open.nat_of_u8 w3
  obtain ⟨m4, rfl, b4⟩ := Open.nat_of_u8 w4
  clear hA0 hval0
  have walk : Calls Yba.prog 3 #[.slice a0 len0 cap0, .slice a1 len1 cap1, .slice a2 len2 cap2, .int .u8 m3, .int .u8 m4] W fun e w' => e = .returned (.bool true) ∧ Below W.heap.size W w' := by
    by_cases hle : len0 ≤ 1024 ∧ len1 ≤ 1024 ∧ len2 ≤ 1024
    · exact Order.law_ok W ⟨a0, len0, cap0, o0, a1, len1, cap1, fun i => (o1 i).1, fun i => (o1 i).2, a2, len2, cap2, fun i => (o2 i).1, fun i => (o2 i).2.1, fun i => (o2 i).2.2, m3, m4⟩
        { hR := hle.1, hM := hle.2.1, hS := hle.2.2, bx := x0, bmi := x1, bmr := y1, bsa := x2, bsb := y2, bsk := t2, bex := b3, bkd := b4, rR := z0, rM := z1, rS := z2 }
    · exact far a0 a1 a2 len0 cap0 len1 cap1 len2 cap2 m3 m4 W hle
  refine walk.mono fun e W' ⟨he, bel⟩ => ?_
  subst he
  exact ⟨_, rfl, _, _, _, [], _, [], hW', trodAll_mk1 (shut_bool Yba.underlying4 _), (trodAll_cons_mk (Below.trod laidOut (by kernel_rfl) (of_decide_eq_true (by kernel_rfl)) k0 bel lt0) (trodAll_cons_mk (Below.trod laidOut (by kernel_rfl) (of_decide_eq_true (by kernel_rfl)) k1 bel lt1) (trodAll_cons_mk (Below.trod laidOut (by kernel_rfl) (of_decide_eq_true (by kernel_rfl)) k2 bel lt2) (trodAll_cons_mk (shut_int Yba.underlying5 w3) (trodAll_cons_mk (shut_int Yba.underlying5 w4) trodAll_mk0))))), rfl, bel.frame _, fun h => by cases h⟩

theorem over : Rows.lawS4660AOrderRow.holds Yba.pinned (OpenSpec.ofChange Rows.lawS4660AOrderSpec) :=
  OpenClaim.holds_of_wide 3 Yba.f3 rfl rfl rfl rfl rfl rfl rfl ⟨rfl, rfl, rfl, rfl, rfl⟩ rfl rfl rfl rfl rfl (by kernel_rfl) Yba.func3 (by kernel_rfl)
    (of_decide_eq_true (by kernel_rfl)) (by unfold Func.isWrapper; first | (rw [if_pos (by decide +kernel)]; kernel_rfl) | (rw [if_neg (by decide +kernel)]; exact ⟨rfl, rfl⟩))
    (fun os started H enc _ => lifted os started H enc)

theorem proved : Rows.LawS4660AOrderSaid := over
end Go.Proofs.Ybulkcrmg.lawS4660AOrder
