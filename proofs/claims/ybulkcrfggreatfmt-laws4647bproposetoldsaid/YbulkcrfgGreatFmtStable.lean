/-
  slices.stableCmpFunc, slices.SortStableFunc.
-/
import Derived.Test.YbulkcrfgGreatFmtSym3
namespace Go.Proofs.YbulkcrfgGreatFmt
open Go.RowKit
namespace Propose
open Kit

theorem dvd_gap {d x y : Nat} (hx : d ∣ x) (hy : d ∣ y) (h : x < y) : x + d ≤ y := by
  obtain ⟨u, rfl⟩ := hx
  obtain ⟨v, rfl⟩ := hy
  have huv : u < v := Nat.lt_of_mul_lt_mul_left h
  have := Nat.mul_le_mul_left d (show u + 1 ≤ v by omega)
  rw [Nat.mul_add, Nat.mul_one] at this
  exact this
/-- Each block of B lists that begins at lo or later is sorted, as far as hi goes. -/
def BK (E : Nat → El) (B lo hi : Nat) : Prop := ∀ x, B ∣ x → lo ≤ x → ∀ i j, x ≤ i → i ≤ j → j < x + B → j < hi → (E i).f ≤ (E j).f
theorem BK.srt {E : Nat → El} {B lo hi x y : Nat} (h : BK E B lo hi) (hx : B ∣ x) (hl : lo ≤ x) (hy : y ≤ x + B) (hh : y ≤ hi) : Srt E x y := fun i j h1 h2 h3 => h x hx hl i j h1 h2 (by omega) (by omega)
/-- One block more. -/
theorem BK.next {E E' : Nat → El} {B a y n : Nat} (h : BK E B 0 a) (ha : B ∣ a) (_hy : y ≤ a + B) (hM : Mem E E' a y) (hS : Srt E' a y) (_hn : y ≤ n) : BK E' B 0 y := by
  intro x hx _ i j h1 h2 h3 h4
  by_cases c : x < a
  · have := dvd_gap hx ha c
    rw [hM.2 i (by omega), hM.2 j (by omega)]
    exact h x hx (Nat.zero_le _) i j h1 h2 h3 (by omega)
  · exact hS i j (by omega) h2 h4
theorem BK.rest {E E' : Nat → El} {B a y n : Nat} (h : BK E B a n) (hM : Mem E E' a y) (_hay : a ≤ y) : BK E' B y n := by
  intro x hx hl i j h1 h2 h3 h4
  rw [hM.2 i (by omega), hM.2 j (by omega)]
  exact h x hx (by omega) i j h1 h2 h3 h4

set_option maxRecDepth 100000 in
set_option maxHeartbeats 8000000 in
theorem stable_ok (g n cap : Nat) (e : Nat → El) (w : World) (hn : n ≤ 300) (hA : Arr w g n e) :
    Calls Ybaz.prog 13 #[dat g n cap, num n, fn] w (SortPost g n 0 n e w) := by
  have HA : Hid (Arr w g n e) := hA
  clear hA
  go_enter Ybaz.func13, Ybaz.ntmps13
  go_upto_region 2 with fail
  go_loopw [7, 8] (fun v v2 wr => ∃ (q : Nat) (E : Nat → El), v = num (20 * q) ∧ v2 = num (20 * q + 20) ∧ 20 * q ≤ n ∧ BK E 20 0 (20 * q) ∧ Mem e E 0 n ∧ Arr wr g n E ∧ Gw g w wr) (fun v _ _ => n + 1 - (intOf v).toNat)
  case atStart => exact ⟨0, e, rfl, rfl, by omega, fun x _ _ i j h1 h2 h3 h4 => by omega, Mem.refl _ _ _, HA.out, Gw.refl _ _⟩
  case round =>
    clear HA
    obtain ⟨q, E, rfl, rfl, hq, hK, hM, hA, hG⟩ := hrel
    obtain ⟨a, ha⟩ : ∃ a, a = 20 * q := ⟨_, rfl⟩
    rw [← ha] at hq hK ⊢
    have hda : 20 ∣ a := ⟨q, ha⟩
    have HQ : Hid (a = 20 * q) := ha
    clear ha
    by_cases hb : a + 20 ≤ n
    · have g1 : (a : Int) + 20 ≤ (n : Int) := by omega
      have HA : Hid (Arr wr g n E) := hA
      clear hA
      go_wp2_with (go_at_call 30; refine (insertion_ok g n cap a (a + 20) E wr hn (by omega) hb HA.out).mono ?_; rintro x w1 ⟨⟨v, rfl⟩, E1, q1, q2, q3, q4⟩)
      go_roundw
      case rel =>
        have ha := HQ.out
        refine ⟨q + 1, E1, by simp; omega, by simp; omega, by omega, ?_, hM.trans (q3.mono (by omega) hb), q1, hG.trans q4⟩
        have := hK.next hda (Nat.le_refl _) q3 q2 hb
        rwa [show 20 * (q + 1) = a + 20 by omega]
      case measure => simp [intOf]; omega
    · have g1 : ¬ (a : Int) + 20 ≤ (n : Int) := by omega
      have HA : Hid (Arr wr g n E) := hA
      clear hA
      go_upto_region 7 with (go_at_call 30; refine (insertion_ok g n cap a n E wr hn hq (Nat.le_refl _) HA.out).mono ?_; rintro x w1 ⟨⟨v, rfl⟩, E1, q1, q2, q3, q4⟩)
      have hK1 : BK E1 20 0 n := hK.next hda (by omega) q3 q2 (Nat.le_refl _)
      have hM1 := hM.trans (q3.mono (by omega) (Nat.le_refl _))
      have hG1 := hG.trans q4
      clear HA hK hM hG q2 q3 q4
      go_loopw [6] (fun v wr => ∃ (B : Nat) (E : Nat → El), 0 < B ∧ B ≤ 600 ∧ v = num B ∧ BK E B 0 n ∧ Mem e E 0 n ∧ Arr wr g n E ∧ Gw g w wr) (fun v _ => n - (intOf v).toNat)
      case atStart => exact ⟨20, E1, by omega, by omega, rfl, hK1, hM1, q1, hG1⟩
      case round =>
        clear hK1 hM1 q1 hG1 g1
        rename_i wr2
        obtain ⟨B, E2, hB0, hB6, rfl, hK, hM, hA, hG⟩ := hrel
        by_cases hBn : B < n
        · have g1 : (B : Int) < (n : Int) := by omega
          obtain ⟨D, hD⟩ : ∃ D, D = 2 * B := ⟨_, rfl⟩
          have f1 : 2 * (B : Int) = (D : Int) := by omega
          have f2 : (B : Int) * 2 = (D : Int) := by omega
          have f3 : IntKind.i64.wrap (D : Int) = (D : Int) := by rw [IntKind.wrap_i64]; omega
          have HD : Hid (D = 2 * B) := hD
          have hdv : ∀ x, D ∣ x → B ∣ x := fun x hx => Nat.dvd_trans ⟨2, by omega⟩ hx
          have hD2 : B < D ∧ D ≤ 600 := by omega
          clear hD
          go_upto_region 9 with fail
          go_loopw [7, 8] (fun v v2 wr => ∃ (a : Nat) (E : Nat → El), v = num a ∧ v2 = num (a + D) ∧ D ∣ a ∧ a ≤ n ∧ BK E D 0 a ∧ BK E B a n ∧ Mem e E 0 n ∧ Arr wr g n E ∧ Gw g w wr) (fun v _ _ => n + 1 - (intOf v).toNat)
          case atStart => exact ⟨0, E2, rfl, by simp, Nat.dvd_zero _, Nat.zero_le _, fun x _ _ i j h1 h2 h3 h4 => by omega, hK, hM, hA, hG⟩
          case round =>
            clear hK hM hA hG
            rename_i wr3
            obtain ⟨c, E3, rfl, rfl, hdc, hcn, hKD, hKB, hM, hA, hG⟩ := hrel
            have hsz := HD.out
            have hbc : B ∣ c := hdv c hdc
            have hbc2 : B ∣ c + B := Nat.dvd_add hbc (Nat.dvd_refl _)
            have s1 : ∀ y, y ≤ c + B → y ≤ n → Srt E3 c y := fun y h1 h2 => hKB.srt hbc (Nat.le_refl _) h1 h2
            have s2 : ∀ y, y ≤ c + B + B → y ≤ n → Srt E3 (c + B) y := fun y h1 h2 => hKB.srt hbc2 (by omega) h1 h2
            have HA : Hid (Arr wr g n E3) := hA
            by_cases hb2 : c + D ≤ n
            · have g2 : (c : Int) + (D : Int) ≤ (n : Int) := by omega
              have call := symMerge_ok g n cap hn (n + 1) c (c + B) (c + D) E3 wr (by omega) (by omega) hb2 (by omega) hA (s1 _ (Nat.le_refl _) (by omega)) (s2 _ (by omega) hb2)
              rw [show num (c + B) = .int .i64 ((c : Int) + (B : Int)) by simp] at call
              have HC : Hid _ := call
              clear hA hsz call s1 s2
              go_wp2_with (go_at_call 31; refine Calls.mono HC.out ?_; rintro x w1 ⟨⟨v, rfl⟩, E4, q1, q2, q3, q4⟩)
              go_roundw
              case rel => exact ⟨c + D, E4, by simp, by simp, Nat.dvd_add hdc (Nat.dvd_refl _), hb2, hKD.next hdc (Nat.le_refl _) q3 q2 hb2, hKB.rest q3 (by omega), hM.trans (q3.mono (by omega) hb2), q1, hG.trans q4⟩
              case measure => simp [intOf]; omega
            · have g2 : ¬ (c : Int) + (D : Int) ≤ (n : Int) := by omega
              by_cases hm : c + B < n
              · have g3 : (c : Int) + (B : Int) < (n : Int) := by omega
                have call := symMerge_ok g n cap hn (n + 1) c (c + B) n E3 wr (by omega) hm (Nat.le_refl _) (by omega) hA (s1 _ (Nat.le_refl _) (by omega)) (s2 _ (by omega) (Nat.le_refl _))
                rw [show num (c + B) = .int .i64 ((c : Int) + (B : Int)) by simp] at call
                have HC : Hid _ := call
                clear hA hsz call s1 s2
                go_wp2_with (go_at_call 31; refine Calls.mono HC.out ?_; rintro x w1 ⟨⟨v, rfl⟩, E4, q1, q2, q3, q4⟩)
                go_roundw
                case rel => exact ⟨D, E4, by omega, by omega, by simp, hKD.next hdc (by omega) q3 q2 (Nat.le_refl _), hM.trans (q3.mono (by omega) (Nat.le_refl _)), q1, hG.trans q4⟩
                case measure => simp [intOf]; omega
              · have g3 : ¬ (c : Int) + (B : Int) < (n : Int) := by omega
                have s3 := s1 n (by omega) (Nat.le_refl _)
                clear hsz s1 s2
                go_wp2
                go_roundw
                case rel => exact ⟨D, E3, by omega, by omega, by simp, hKD.next hdc (by omega) (Mem.refl _ _ _) s3 (Nat.le_refl _), hM, hA, hG⟩
                case measure => simp [intOf]; omega
        · have g1 : ¬ (B : Int) < (n : Int) := by omega
          go_wp2
          go_end0
          exact ⟨⟨_, rfl⟩, E2, hA, hK.srt (Nat.dvd_zero _) (Nat.le_refl _) (by omega) (Nat.le_refl _), hM, hG⟩

set_option maxRecDepth 20000 in
/-- **slices.SortStableFunc at the law's lists: sorted by 'from'; nothing but what was there.** -/
theorem SortStable_ok (g n cap : Nat) (e : Nat → El) (w : World) (hn : n ≤ 300) (hA : Arr w g n e) :
    Calls Ybaz.prog 5 #[dat g n cap, fn] w (SortPost g n 0 n e w) := by
  have HA : Hid (Arr w g n e) := hA
  clear hA
  go_enter Ybaz.func5, Ybaz.ntmps5
  go_wp2_with (go_at_call 13; refine (stable_ok g n cap e w hn HA.out).mono ?_; rintro x w1 ⟨⟨v, rfl⟩, E, q⟩)
  go_end0
  exact ⟨⟨_, rfl⟩, E, q⟩
end Propose
end Go.Proofs.YbulkcrfgGreatFmt
