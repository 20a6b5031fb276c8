/-
  slices.swapRangeCmpFunc, slices.rotateCmpFunc.
-/
import Derived.Test.YbulkcrfgGreatFmtArr
namespace Go.Proofs.YbulkcrfgGreatFmt
open Go.RowKit
namespace Propose
open Kit

abbrev fn : Value := .func (.func 6) #[] #[]
abbrev dat (g n cap : Nat) : Value := .slice (some ⟨g, 0, none⟩) n cap
/-- The ranges [a, a + k) and [b, b + k) exchanged. -/
def swR (e : Nat → El) (a b k : Nat) : Nat → El := fun i => if a ≤ i ∧ i < a + k then e (i + (b - a)) else if b ≤ i ∧ i < b + k then e (i - (b - a)) else e i
theorem swR_zero (e : Nat → El) (a b : Nat) : swR e a b 0 = e := by
  funext i
  unfold swR
  rw [if_neg (by omega), if_neg (by omega)]
theorem swR_succ (e : Nat → El) (a b k : Nat) (h : a + k < b) : swp (swR e a b k) (a + k) (b + k) = swR e a b (k + 1) := by
  funext i
  unfold swp upd swR
  by_cases h1 : i = b + k
  · subst h1
    rw [if_pos rfl, if_neg (by omega), if_neg (by omega), if_neg (by omega), if_pos (by omega)]
    congr 1
    omega
  · rw [if_neg h1]
    by_cases h2 : i = a + k
    · subst h2
      rw [if_pos rfl, if_neg (by omega), if_neg (by omega), if_pos (by omega)]
      congr 1
      omega
    · rw [if_neg h2]
      by_cases h3 : a ≤ i ∧ i < a + k
      · rw [if_pos h3, if_pos (show a ≤ i ∧ i < a + (k + 1) by omega)]
      · rw [if_neg h3, if_neg (show ¬ (a ≤ i ∧ i < a + (k + 1)) by omega)]
        by_cases h4 : b ≤ i ∧ i < b + k
        · rw [if_pos h4, if_pos (show b ≤ i ∧ i < b + (k + 1) by omega)]
        · rw [if_neg h4, if_neg (show ¬ (b ≤ i ∧ i < b + (k + 1)) by omega)]

/-- A list is stored at place i. -/
abbrev put4 (W : World) (g i : Nat) (x : El) : World := (((W.setCell ⟨g, i * 4, none⟩ (num x.f)).setCell ⟨g, i * 4 + 1, none⟩ (num x.l)).setCell ⟨g, i * 4 + 2, none⟩ (.slice x.va x.vn x.vc)).setCell ⟨g, i * 4 + 3, none⟩ (.bool x.al)
theorem Gw.put4 {g : Nat} {u v : World} (h : Gw g u v) (i : Nat) (x : El) : Gw g u (put4 v g i x) := (((h.setCell _ _).setCell _ _).setCell _ _).setCell _ _
theorem Arr.swapped {W : World} {g n : Nat} {e : Nat → El} (h : Arr W g n e) {i j : Nat} (hi : i < n) (hj : j < n) : Arr (put4 (put4 W g i (e j)) g j (e i)).drew g n (swp e i j) ∧ Gw g W (put4 (put4 W g i (e j)) g j (e i)).drew :=
  ⟨((h.put hi (e j)).put hj (e i)).drew, (((Gw.refl g W).put4 i (e j)).put4 j (e i)).drew⟩

set_option maxRecDepth 20000 in
set_option maxHeartbeats 4000000 in
theorem swapRange_ok (g n cap a b k : Nat) (e : Nat → El) (w : World) (hn : n ≤ 300) (hab : a + k ≤ b) (hb : b + k ≤ n) (hA : Arr w g n e) :
    Calls Ybaz.prog 90 #[dat g n cap, num a, num b, num k, fn] w fun x w' => (∃ v, x = .returned v) ∧ Arr w' g n (swR e a b k) ∧ Gw g w w' := by
  have HA : Hid _ := hA
  clear hA
  go_enter Ybaz.func90, Ybaz.ntmps90
  go_upto_region 1 with fail
  go_loopw [10] (fun v wr => ∃ i : Nat, i ≤ k ∧ v = num i ∧ Arr wr g n (swR e a b i) ∧ Gw g w wr) (fun v _ => k - (intOf v).toNat)
  case atStart => exact ⟨0, Nat.zero_le _, rfl, by rw [swR_zero]; exact HA.out, Gw.refl _ _⟩
  case round =>
    clear HA
    obtain ⟨i, hi, rfl, hA, hG⟩ := hrel
    by_cases hlt : i < k
    · have g1 : (i : Int) < (k : Int) := by omega
      have b1 : a + i < n := by omega
      have b2 : b + i < n := by omega
      have g2 : (a : Int) + (i : Int) < (n : Int) := by omega
      have g3 : (b : Int) + (i : Int) < (n : Int) := by omega
      generalize hE : swR e a b i = E at hA
      have x0 := hA.c0 b1
      have x1 := hA.c1 b1
      have x2 := hA.c2 b1
      have x3 := hA.c3 b1
      have y0 := hA.c0 b2
      have y1 := hA.c1 b2
      have y2 := hA.c2 b2
      have y3 := hA.c3 b2
      have fz := hA.fz
      go_upto_region 3 with fail
      go_region
      have hA2 := hA.swapped b1 b2
      go_wp2
      go_roundw
      case rel =>
        refine ⟨i + 1, by omega, by simp, ?_, hG.trans hA2.2⟩
        rw [← swR_succ e a b i (by omega), hE]
        exact hA2.1
      case measure => simp [intOf]; omega
    · obtain rfl : i = k := by omega
      go_wp2
      go_end0
      exact ⟨⟨_, rfl⟩, hA, hG⟩
/-- The range [l, h) turned at m: [m, h) comes ahead of [l, m). -/
def rot (e : Nat → El) (l m h : Nat) : Nat → El := fun i => if l ≤ i ∧ i < l + (h - m) then e (i + (m - l)) else if l + (h - m) ≤ i ∧ i < h then e (i - (h - m)) else e i
theorem rot_more (e : Nat → El) (m i j : Nat) (hi : i ≤ m) (h : j < i) (_hj : 0 < j) : rot (swR e (m - i) m j) (m - (i - j)) m (m + j) = rot e (m - i) m (m + j) := by
  funext k
  unfold rot swR
  by_cases h1 : k < m - i
  · rw [if_neg (by omega), if_neg (by omega), if_neg (by omega), if_neg (by omega), if_neg (by omega), if_neg (by omega)]
  by_cases h2 : k < m - i + j
  · rw [if_neg (by omega), if_neg (by omega), if_pos (by omega), if_pos (by omega)]
  by_cases h3 : k < m - i + j + j
  · rw [if_pos (by omega), if_neg (by omega), if_pos (by omega), if_neg (by omega), if_pos (by omega)]
    (congr 1; try omega)
  by_cases h4 : k < m + j
  · rw [if_neg (by omega), if_pos (by omega), if_neg (by omega), if_neg (by omega), if_neg (by omega), if_pos (by omega)]
  · rw [if_neg (by omega), if_neg (by omega), if_neg (by omega), if_neg (by omega), if_neg (by omega), if_neg (by omega)]
theorem rot_less (e : Nat → El) (m i j : Nat) (hi : i ≤ m) (h : i < j) (_hi0 : 0 < i) : rot (swR e (m - i) (m + j - i) i) (m - i) m (m + (j - i)) = rot e (m - i) m (m + j) := by
  funext k
  unfold rot swR
  by_cases h1 : k < m - i
  · rw [if_neg (by omega), if_neg (by omega), if_neg (by omega), if_neg (by omega), if_neg (by omega), if_neg (by omega)]
  by_cases h2 : k < m - i + (j - i)
  · rw [if_pos (by omega)]
    rw [if_pos (show m - i ≤ k ∧ k < m - i + (m + j - m) by omega)]
    by_cases h3 : k + (m - (m - i)) < m
    · rw [if_pos (by omega)]; (congr 1; try omega)
    · rw [if_neg (by omega)]
      rw [if_neg (by omega)]
  by_cases h3 : k < m + (j - i)
  · rw [if_neg (by omega), if_pos (by omega)]
    rw [if_pos (by omega), if_pos (by omega)]
    (congr 1; try omega)
  by_cases h4 : k < m + j
  · rw [if_neg (by omega), if_neg (by omega), if_neg (by omega), if_pos (by omega), if_neg (by omega), if_pos (by omega)]
    (congr 1; try omega)
  · rw [if_neg (by omega), if_neg (by omega), if_neg (by omega), if_neg (by omega), if_neg (by omega), if_neg (by omega)]
theorem rot_same (e : Nat → El) (m i : Nat) (hi : i ≤ m) : swR e (m - i) m i = rot e (m - i) m (m + i) := by
  funext k
  unfold rot swR
  by_cases h1 : m - i ≤ k ∧ k < m - i + i
  · rw [if_pos h1, if_pos (by omega)]
  · rw [if_neg h1]
    rw [if_neg (show ¬ (m - i ≤ k ∧ k < m - i + (m + i - m)) by omega)]
    by_cases h2 : m ≤ k ∧ k < m + i
    · rw [if_pos h2, if_pos (by omega)]; (congr 1; try omega)
    · rw [if_neg h2, if_neg (by omega)]

set_option maxRecDepth 20000 in
set_option maxHeartbeats 4000000 in
theorem rotate_ok (g n cap l m h : Nat) (e : Nat → El) (w : World) (hn : n ≤ 300) (hlm : l < m) (hmh : m < h) (hh : h ≤ n) (hA : Arr w g n e) :
    Calls Ybaz.prog 62 #[dat g n cap, num l, num m, num h, fn] w fun x w' => (∃ v, x = .returned v) ∧ Arr w' g n (rot e l m h) ∧ Gw g w w' := by
  have HA : Hid _ := hA
  clear hA
  go_enter Ybaz.func62, Ybaz.ntmps62
  go_upto_region 2 with fail
  go_loopw [10, 11] (fun v v2 wr => ∃ i j E, 0 < i ∧ 0 < j ∧ i ≤ m ∧ m + j ≤ n ∧ v = num i ∧ v2 = num j ∧ rot E (m - i) m (m + j) = rot e l m h ∧ Arr wr g n E ∧ Gw g w wr) (fun v v2 _ => (intOf v).toNat + (intOf v2).toNat)
  case atStart => exact ⟨m - l, h - m, e, by omega, by omega, by omega, by omega, by simp; omega, by simp; omega, by rw [show m - (m - l) = l by omega, show m + (h - m) = h by omega], HA.out, Gw.refl _ _⟩
  case round =>
    clear HA
    obtain ⟨i, j, E, hi0, hj0, him, hjn, rfl, rfl, hR, hA, hG⟩ := hrel
    by_cases hne : i = j
    · subst hne
      have HA : Hid _ := hA
      clear hA
      have e1 : (m : Int) - (i : Int) = ((m - i : Nat) : Int) := by omega
      go_wp2_with (go_at_call 90; (try rw [e1]); refine (swapRange_ok g n cap (m - i) m i E wr hn (by omega) (by omega) (by exact HA.out)).mono ?_; rintro x w1 ⟨⟨v, rfl⟩, hA1, hG1⟩)
      go_end0
      refine ⟨⟨_, rfl⟩, ?_, hG.trans hG1⟩
      rw [← hR, ← rot_same E m i him]
      exact hA1
    · have g1 : ((i : Int) != (j : Int)) = true := by simp; omega
      by_cases hgt : j < i
      · have g2 : (j : Int) < (i : Int) := by omega
        have HA : Hid _ := hA
        clear hA
        have e1 : (m : Int) - (i : Int) = ((m - i : Nat) : Int) := by omega
        go_wp2_with (go_at_call 90; (try rw [e1]); refine (swapRange_ok g n cap (m - i) m j E wr hn (by omega) (by omega) (by exact HA.out)).mono ?_; rintro x w1 ⟨⟨v, rfl⟩, hA1, hG1⟩)
        go_roundw
        case rel => exact ⟨i - j, j, _, by omega, hj0, by omega, hjn, by simp; omega, rfl, by rw [rot_more E m i j him hgt hj0]; exact hR, hA1, hG.trans hG1⟩
        case measure => simp [intOf]; omega
      · have g2 : ¬ (j : Int) < (i : Int) := by omega
        have HA : Hid _ := hA
        clear hA
        have e1 : (m : Int) - (i : Int) = ((m - i : Nat) : Int) := by omega
        have e2 : (m : Int) + (j : Int) - (i : Int) = ((m + j - i : Nat) : Int) := by omega
        go_wp2_with (go_at_call 90; (try rw [e1]); (try rw [e2]); refine (swapRange_ok g n cap (m - i) (m + j - i) i E wr hn (by omega) (by omega) (by exact HA.out)).mono ?_; rintro x w1 ⟨⟨v, rfl⟩, hA1, hG1⟩)
        go_roundw
        case rel => exact ⟨i, j - i, _, hi0, by omega, him, by omega, rfl, by simp; omega, by rw [rot_less E m i j him (by omega) hi0]; exact hR, hA1, hG.trans hG1⟩
        case measure => simp [intOf]; omega
end Propose
end Go.Proofs.YbulkcrfgGreatFmt
