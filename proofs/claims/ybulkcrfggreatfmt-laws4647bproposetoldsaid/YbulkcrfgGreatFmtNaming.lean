/-
  LawS4647BPropose: (*acceptedPhase).naming.
-/
import Derived.Test.YbulkcrfgGreatFmtNamed
namespace Go.Proofs.YbulkcrfgGreatFmt
open Go.RowKit
namespace Propose
open Kit

/-- A list that has been accepted. -/
structure AL where
  f : Nat
  l : Nat
  xs : List Nat
  al : Bool
def AL.names (a : AL) (t : Nat) : Bool := a.al || a.xs.contains t
/-- Block g holds the accepted lists e 0, .., e (n - 1). -/
def LArr (W : World) (g n : Nat) (e : Nat → AL) : Prop :=
  g < W.heap.size ∧ ∀ i, i < n → W.cell? ⟨g, i * 4, none⟩ = some (num (e i).f) ∧ W.cell? ⟨g, i * 4 + 1, none⟩ = some (num (e i).l) ∧ W.cell? ⟨g, i * 4 + 2, none⟩ = some (str (encs (e i).xs)) ∧ W.cell? ⟨g, i * 4 + 3, none⟩ = some (.bool (e i).al)
theorem LArr.below {W W' : World} {g n : Nat} {e : Nat → AL} (h : LArr W g n e) (hb : Below W.heap.size W W') : LArr W' g n e :=
  ⟨Nat.lt_of_lt_of_le h.1 hb.size, fun i hi => ⟨(hb.cell h.1).trans (h.2 i hi).1, (hb.cell h.1).trans (h.2 i hi).2.1, (hb.cell h.1).trans (h.2 i hi).2.2.1, (hb.cell h.1).trans (h.2 i hi).2.2.2⟩⟩
/-- The values are of the pool, and not too many. -/
def Okl (n : Nat) (e : Nat → AL) : Prop := ∀ i, i < n → (∀ x ∈ (e i).xs, x < 6) ∧ (e i).xs.length ≤ 300 ∧ 1 ≤ (e i).f ∧ (e i).f ≤ 7 ∧ (e i).l ≤ 7

/-- How many members the lists for me that name t are from, and the last of them. -/
def nmg (e : Nat → AL) (me t : Nat) : Nat → Nat × Nat
  | 0 => (0, 0)
  | k + 1 => if (e k).f ≠ (nmg e me t k).2 ∧ (e k).l = me ∧ (e k).names t = true then ((nmg e me t k).1 + 1, (e k).f) else nmg e me t k
theorem nmg_le (e : Nat → AL) (me t k : Nat) : (nmg e me t k).1 ≤ k := by
  induction k with
  | zero => exact Nat.le_refl _
  | succ k ih =>
    unfold nmg
    split
    · show (nmg e me t k).1 + 1 ≤ k + 1; omega
    · omega

set_option maxRecDepth 20000 in
set_option maxHeartbeats 4000000 in
theorem naming_ok (pb po g n cap me t : Nat) (e : Nat → AL) (w : World) (hn : n ≤ 300) (ht : t < 6) (hc : w.cell? ⟨pb, po, none⟩ = some (.slice (some ⟨g, 0, none⟩) n cap)) (hL : LArr w g n e) (hO : Okl n e) :
    Calls Ybaz.prog 27 #[.pointer (some ⟨pb, po, none⟩), str (poolL t), num me] w fun x w' => x = .returned (num (nmg e me t n).1) ∧ Below w.heap.size w w' := by
  have HL : Hid (LArr w g n e) := hL
  have HO : Hid (Okl n e) := hO
  clear hL hO
  go_enter Ybaz.func27, Ybaz.ntmps27
  go_upto_region 3 with fail
  go_loopw [7, 8, 16] (fun v v2 v3 wr => ∃ k : Nat, k ≤ n ∧ v3 = num k ∧ v = num (nmg e me t k).1 ∧ v2 = num (nmg e me t k).2 ∧ Below w.heap.size w wr) (fun _ _ v _ => n - (intOf v).toNat)
  case atStart => exact ⟨0, Nat.zero_le _, rfl, rfl, rfl, Below.refl _ _⟩
  case round =>
    obtain ⟨k, hk, rfl, rfl, rfl, hB⟩ := hrel
    by_cases hlt : k < n
    · have g1 : (k : Int) < (n : Int) := by omega
      obtain ⟨hL1, hL2⟩ := HL.out.below hB
      obtain ⟨c0, c1, c2, c3⟩ := hL2 k hlt
      obtain ⟨o1, o2, o3, o4, o5⟩ := HO.out k hlt
      have hle := nmg_le e me t k
      clear hL2
      go_upto_region 5 with fail
      have hrow := Row.new wr 38 [num (e k).f, num (e k).l, str (encs (e k).xs), .bool (e k).al] _ rfl
      have hB2 := hB.alloc hB.size (.cells #[num (e k).f, num (e k).l, str (encs (e k).xs), .bool (e k).al] 38)
      have y0 := hrow.cell 0
      have y1 := hrow.cell 1
      have y2 := hrow.cell 2
      have y3 := hrow.cell 3
      simp only [List.getElem?_cons_zero, List.getElem?_cons_succ] at y0 y1 y2 y3
      generalize hbv : wr.heap.size = bv at hrow y0 y1 y2 y3 ⊢
      generalize hVV : World.alloc wr _ = V2 at hB2 hrow y0 y1 y2 y3 ⊢
      have hbl := hrow.lt
      clear hVV hbv c0 c1 c2 c3 hB hrow
      have hs : nmg e me t (k + 1) = if (e k).f ≠ (nmg e me t k).2 ∧ (e k).l = me ∧ (e k).names t = true then ((nmg e me t k).1 + 1, (e k).f) else nmg e me t k := rfl
      generalize hc1 : (nmg e me t k).1 = c at hs hle ⊢
      generalize hc2 : (nmg e me t k).2 = d at hs ⊢
      by_cases h1 : (e k).f = d
      · have b1 : (((e k).f : Int) != (d : Int)) = false := by simp; omega
        rw [if_neg (by intro h; exact h.1 h1)] at hs
        have HS : Hid _ := hs
        clear hs
        go_wp2_with fail
        go_roundw
        case rel => exact ⟨k + 1, by omega, by simp, by rw [HS.out, hc1], by rw [HS.out, hc2], hB2⟩
        case measure => simp [intOf]; omega
      · have b1 : (((e k).f : Int) != (d : Int)) = true := by simp; omega
        by_cases h2 : (e k).l = me
        · have b2 : (((e k).l : Int) == (me : Int)) = true := by simp; omega
          have hcall := names_ok bv t (e k).xs (e k).al ht o1 o2 V2 y2 y3
          change Calls Ybaz.prog 60 #[ptr bv, str (poolL t)] V2 fun x w' => x = .returned (.bool ((e k).names t)) ∧ Below V2.heap.size V2 w' at hcall
          have HC : Hid (Calls Ybaz.prog 60 #[ptr bv, str (poolL t)] V2 fun x w' => x = .returned (.bool ((e k).names t)) ∧ Below V2.heap.size V2 w') := hcall
          clear hcall
          cases h3 : (e k).names t with
          | true =>
            rw [h3] at HC
            rw [if_pos ⟨h1, h2, h3⟩] at hs
            have HS : Hid _ := hs
            clear hs
            go_upto_region 6 with (go_at_call 60; refine HC.out.mono ?_; rintro x w2 ⟨rfl, hb⟩)
            have z0 : w2.cell? ⟨bv, 0, none⟩ = some (num (e k).f) := (hb.cell hbl).trans y0
            go_wp2_with fail
            go_roundw
            case rel => exact ⟨k + 1, by omega, by simp, by rw [HS.out]; simp, by rw [HS.out], hB2.trans (hb.mono hB2.size)⟩
            case measure => simp [intOf]; omega
          | false =>
            rw [h3] at HC
            rw [if_neg (by rw [h3]; intro h; exact absurd h.2.2 (by decide))] at hs
            have HS : Hid _ := hs
            clear hs
            go_wp2_with (go_at_call 60; refine HC.out.mono ?_; rintro x w2 ⟨rfl, hb⟩)
            go_roundw
            case rel => exact ⟨k + 1, by omega, by simp, by rw [HS.out, hc1], by rw [HS.out, hc2], hB2.trans (hb.mono hB2.size)⟩
            case measure => simp [intOf]; omega
        · have b2 : (((e k).l : Int) == (me : Int)) = false := by simp; omega
          rw [if_neg (by intro h; exact h2 h.2.1)] at hs
          have HS : Hid _ := hs
          clear hs
          go_wp2_with fail
          go_roundw
          case rel => exact ⟨k + 1, by omega, by simp, by rw [HS.out, hc1], by rw [HS.out, hc2], hB2⟩
          case measure => simp [intOf]; omega
    · obtain rfl : k = n := by omega
      go_wp2_with fail
      go_ret
      exact ⟨rfl, hB⟩
end Propose
end Go.Proofs.YbulkcrfgGreatFmt
