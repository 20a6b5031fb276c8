/-
  slices.insertionSortCmpFunc.
-/
import Derived.Test.YbulkcrfgGreatFmtSwap
namespace Go.Proofs.YbulkcrfgGreatFmt
open Go.RowKit
namespace Propose
open Kit

/-- Sorted by 'from' in [a, b). -/
def Srt (e : Nat → El) (a b : Nat) : Prop := ∀ i j, a ≤ i → i ≤ j → j < b → (e i).f ≤ (e j).f
/-- e' holds in [a, b) only what e held there, and is e elsewhere. -/
def Mem (e e' : Nat → El) (a b : Nat) : Prop := (∀ i, a ≤ i → i < b → ∃ j, a ≤ j ∧ j < b ∧ e' i = e j) ∧ ∀ i, ¬ (a ≤ i ∧ i < b) → e' i = e i
theorem Mem.refl (e : Nat → El) (a b : Nat) : Mem e e a b := ⟨fun i h1 h2 => ⟨i, h1, h2, rfl⟩, fun _ _ => rfl⟩
theorem Mem.trans {e e' e'' : Nat → El} {a b : Nat} (h : Mem e e' a b) (k : Mem e' e'' a b) : Mem e e'' a b :=
  ⟨fun i h1 h2 => by
    obtain ⟨j, j1, j2, j3⟩ := k.1 i h1 h2
    obtain ⟨p, p1, p2, p3⟩ := h.1 j j1 j2
    exact ⟨p, p1, p2, j3.trans p3⟩, fun i hi => (k.2 i hi).trans (h.2 i hi)⟩
theorem Mem.mono {e e' : Nat → El} {a b c d : Nat} (h : Mem e e' a b) (h1 : c ≤ a) (h2 : b ≤ d) : Mem e e' c d :=
  ⟨fun i i1 i2 => by
    by_cases hi : a ≤ i ∧ i < b
    · obtain ⟨j, j1, j2, j3⟩ := h.1 i hi.1 hi.2
      exact ⟨j, by omega, by omega, j3⟩
    · exact ⟨i, i1, i2, h.2 i hi⟩, fun i hi => h.2 i (by omega)⟩
theorem swp_at1 (e : Nat → El) (i j : Nat) (h : i ≠ j) : swp e i j i = e j := by unfold swp upd; rw [if_neg h, if_pos rfl]
theorem swp_at2 (e : Nat → El) (i j : Nat) : swp e i j j = e i := by unfold swp upd; rw [if_pos rfl]
theorem swp_off (e : Nat → El) (i j k : Nat) (h1 : k ≠ i) (h2 : k ≠ j) : swp e i j k = e k := by unfold swp upd; rw [if_neg h2, if_neg h1]
theorem Mem.swp (e : Nat → El) {a b i j : Nat} (hi : a ≤ i ∧ i < b) (hj : a ≤ j ∧ j < b) (hne : i ≠ j) : Mem e (swp e i j) a b :=
  ⟨fun k k1 k2 => by
    by_cases h1 : k = i
    · subst h1; exact ⟨j, hj.1, hj.2, swp_at1 e _ _ hne⟩
    · by_cases h2 : k = j
      · subst h2; exact ⟨i, hi.1, hi.2, swp_at2 e _ _⟩
      · exact ⟨k, k1, k2, swp_off e _ _ _ h1 h2⟩, fun k hk => swp_off e _ _ _ (by omega) (by omega)⟩

theorem Srt.one (e : Nat → El) (a : Nat) : Srt e a (a + 1) := fun i j h1 h2 h3 => by
  obtain rfl : i = j := by omega
  exact Nat.le_refl _
/-- While the list at place j goes down. -/
def Down (E : Nat → El) (a i j : Nat) : Prop := (∀ p q, a ≤ p → p < q → q ≤ i → p ≠ j → q ≠ j → (E p).f ≤ (E q).f) ∧ ∀ q, j < q → q ≤ i → (E j).f ≤ (E q).f
theorem Down.start {E : Nat → El} {a i : Nat} (h : Srt E a i) : Down E a i i := ⟨fun p q h1 h2 h3 h4 h5 => h p q h1 (by omega) (by omega), fun q h1 h2 => by omega⟩
theorem Down.done {E : Nat → El} {a i j : Nat} (h : Down E a i j) (hj : a ≤ j) (hji : j ≤ i) (hd : j = a ∨ (E (j - 1)).f ≤ (E j).f) : Srt E a (i + 1) := by
  intro p q h1 h2 h3
  by_cases e : p = q
  · subst e; exact Nat.le_refl _
  by_cases hp : p = j
  · subst hp; exact h.2 q (by omega) (by omega)
  by_cases hq : q = j
  · subst hq
    rcases hd with hd | hd
    · omega
    · by_cases hp1 : p = q - 1
      · subst hp1; exact hd
      · exact Nat.le_trans (h.1 p (q - 1) h1 (by omega) (by omega) hp (by omega)) hd
  · exact h.1 p q h1 (by omega) (by omega) hp hq
theorem Down.step {E : Nat → El} {a i j : Nat} (h : Down E a i j) (hj : a < j) (hji : j ≤ i) (hlt : (E j).f < (E (j - 1)).f) : Down (swp E j (j - 1)) a i (j - 1) := by
  have a1 : swp E j (j - 1) j = E (j - 1) := swp_at1 E _ _ (by omega)
  have a2 : swp E j (j - 1) (j - 1) = E j := swp_at2 E _ _
  refine ⟨fun p q h1 h2 h3 h4 h5 => ?_, fun q h1 h2 => ?_⟩
  · by_cases hq : q = j
    · subst hq
      rw [a1, swp_off E _ _ p (by omega) h4]
      exact h.1 p (q - 1) h1 (by omega) (by omega) (by omega) (by omega)
    · rw [swp_off E _ _ q hq h5]
      by_cases hp : p = j
      · subst hp
        rw [a1]
        exact h.1 (p - 1) q (by omega) (by omega) h3 (by omega) hq
      · rw [swp_off E _ _ p hp h4]
        exact h.1 p q h1 h2 h3 hp hq
  · rw [a2]
    by_cases hq : q = j
    · subst hq; rw [a1]; omega
    · rw [swp_off E _ _ q hq (by omega)]
      exact h.2 q (by omega) h2
theorem cmpI_neg {a b : Nat} : decide (cmpI a b < 0) = decide (a < b) := by
  unfold cmpI
  by_cases h : a < b
  · simp [h]
  · rw [if_neg h]
    by_cases h2 : b < a <;> simp [h, h2]

theorem low_cell {W : World} {b : Nat} {o : Nat} {W' : World} (hb : Below W.heap.size W W') (h : b < W.heap.size) : W'.cell? ⟨b, o, none⟩ = W.cell? ⟨b, o, none⟩ := hb.cell h

set_option maxRecDepth 20000 in
set_option maxHeartbeats 8000000 in
theorem insertion_ok (g n cap a b : Nat) (e : Nat → El) (w : World) (hn : n ≤ 300) (hab : a ≤ b) (hb : b ≤ n) (hA : Arr w g n e) :
    Calls Ybaz.prog 30 #[dat g n cap, num a, num b, fn] w fun x w' => (∃ v, x = .returned v) ∧ ∃ E, Arr w' g n E ∧ Srt E a b ∧ Mem e E a b ∧ Gw g w w' := by
  have HA : Hid _ := hA
  clear hA
  go_enter Ybaz.func30, Ybaz.ntmps30
  go_upto_region 1 with fail
  go_loopw [8] (fun v wr => ∃ (i : Nat) (E : Nat → El), a < i ∧ v = num i ∧ (i ≤ b ∨ i = a + 1) ∧ Srt E a i ∧ Arr wr g n E ∧ Mem e E a b ∧ Gw g w wr) (fun v _ => b + 1 - (intOf v).toNat)
  case atStart => exact ⟨a + 1, e, by omega, by simp, .inr rfl, Srt.one e a, HA.out, Mem.refl _ _ _, Gw.refl _ _⟩
  case round =>
    clear HA
    obtain ⟨i, E, hai, rfl, hib, hS, hA, hM, hG⟩ := hrel
    by_cases hlt : i < b
    · have g1 : (i : Int) < (b : Int) := by omega
      go_upto_region 4 with fail
      go_loopw [9] (fun v wr => ∃ (j : Nat) (E : Nat → El), a ≤ j ∧ j ≤ i ∧ v = num j ∧ Down E a i j ∧ Arr wr g n E ∧ Mem e E a b ∧ Gw g w wr) (fun v _ => (intOf v).toNat)
      case atStart => exact ⟨i, E, by omega, Nat.le_refl _, rfl, Down.start hS, hA, hM, hG⟩
      case round =>
        clear hS hA hM hG
        rename_i wr2
        obtain ⟨j, E, haj, hji, rfl, hD, hA, hM, hG⟩ := hrel
        by_cases hja : j = a
        · have g2 : ¬ (a : Int) < (j : Int) := by omega
          have g3 : decide ((a : Int) < (j : Int)) = false := by simp; omega
          go_upto_region 4 with fail
          go_quiet (fail)
          go_wp2
          go_roundw
          case rel => exact ⟨i + 1, E, by omega, by simp, .inl (by omega), hD.done haj hji (.inl hja), hA, hM, hG.drewN _⟩
          case measure => simp [intOf]; omega
        · obtain ⟨p, hp⟩ : ∃ p, p = j - 1 := ⟨_, rfl⟩
          have e1 : (j : Int) - 1 = (p : Int) := by omega
          have e2 : IntKind.i64.wrap (p : Int) = (p : Int) := by rw [IntKind.wrap_i64]; omega
          have g2 : (a : Int) < (j : Int) := by omega
          have g3 : decide ((a : Int) < (j : Int)) = true := by simp; omega
          have b1 : j < n := by omega
          have b2 : p < n := by omega
          have g4 : (j : Int) < (n : Int) := by omega
          have g5 : (p : Int) < (n : Int) := by omega
          have x0 := hA.c0 b1
          have x1 := hA.c1 b1
          have x2 := hA.c2 b1
          have x3 := hA.c3 b1
          have y0 := hA.c0 b2
          have y1 := hA.c1 b2
          have y2 := hA.c2 b2
          have y3 := hA.c3 b2
          have hgl := hA.lt
          have HP : Hid (p = j - 1) := hp
          clear hp
          by_cases hl : (E j).f < (E p).f
          · have hc : decide (cmpI (E j).f (E p).f < 0) = true := by rw [cmpI_neg]; simp [hl]
            go_upto_region 4 with fail
            go_region_held3 (fun V => V.cell? ⟨g, j * 4, none⟩ = some (num (E j).f) ∧ V.cell? ⟨g, j * 4 + 1, none⟩ = some (num (E j).l) ∧ V.cell? ⟨g, j * 4 + 2, none⟩ = some (.slice (E j).va (E j).vn (E j).vc) ∧ V.cell? ⟨g, j * 4 + 3, none⟩ = some (.bool (E j).al) ∧ V.cell? ⟨g, p * 4, none⟩ = some (num (E p).f) ∧ V.cell? ⟨g, p * 4 + 1, none⟩ = some (num (E p).l) ∧ V.cell? ⟨g, p * 4 + 2, none⟩ = some (.slice (E p).va (E p).vn (E p).vc) ∧ V.cell? ⟨g, p * 4 + 3, none⟩ = some (.bool (E p).al)) (first | assumption | exact ⟨x0, x1, x2, x3, y0, y1, y2, y3⟩)
              (first | (go_at_call 6; refine (less_ok (E j) (E p) _).mono ?_; rintro x w2 ⟨rfl, hb⟩; have hq : w2.cell? ⟨g, j * 4, none⟩ = some (num (E j).f) ∧ w2.cell? ⟨g, j * 4 + 1, none⟩ = some (num (E j).l) ∧ w2.cell? ⟨g, j * 4 + 2, none⟩ = some (.slice (E j).va (E j).vn (E j).vc) ∧ w2.cell? ⟨g, j * 4 + 3, none⟩ = some (.bool (E j).al) ∧ w2.cell? ⟨g, p * 4, none⟩ = some (num (E p).f) ∧ w2.cell? ⟨g, p * 4 + 1, none⟩ = some (num (E p).l) ∧ w2.cell? ⟨g, p * 4 + 2, none⟩ = some (.slice (E p).va (E p).vn (E p).vc) ∧ w2.cell? ⟨g, p * 4 + 3, none⟩ = some (.bool (E p).al) := ⟨(hb.cell hgl).trans x0, (hb.cell hgl).trans x1, (hb.cell hgl).trans x2, (hb.cell hgl).trans x3, (hb.cell hgl).trans y0, (hb.cell hgl).trans y1, (hb.cell hgl).trans y2, (hb.cell hgl).trans y3⟩))
            have hb' : Below wr.heap.size wr w2 := ⟨hb.os, hb.tape, hb.output, hb.size, hb.block⟩
            have hA1 := hA.below hb'
            have hG1 := hG.trans (Gw.below (g := g) hb')
            clear x0 x1 x2 x3 y0 y1 y2 y3 hb hb' hA hG
            obtain ⟨x0, x1, x2, x3, y0, y1, y2, y3⟩ := hq
            have fz := hA1.fz
            have hs := hA1.swapped b1 b2
            go_upto_region 6 with fail
            go_region
            go_wp2
            go_roundw
            case rel =>
              have hp := HP.out
              have hstep := hD.step (by omega) hji (by rw [← hp]; exact hl)
              rw [← hp] at hstep
              refine ⟨p, swp E j p, by omega, by omega, by simp, hstep, hs.1, hM.trans (Mem.swp E (by omega) (by omega) (by omega)), hG1.trans hs.2⟩
            case measure => simp [intOf]; omega
          · have hc : decide (cmpI (E j).f (E p).f < 0) = false := by rw [cmpI_neg]; simp; omega
            go_upto_region 4 with fail
            go_region_held3 (fun V => V.cell? ⟨g, j * 4, none⟩ = some (num (E j).f) ∧ V.cell? ⟨g, j * 4 + 1, none⟩ = some (num (E j).l) ∧ V.cell? ⟨g, j * 4 + 2, none⟩ = some (.slice (E j).va (E j).vn (E j).vc) ∧ V.cell? ⟨g, j * 4 + 3, none⟩ = some (.bool (E j).al) ∧ V.cell? ⟨g, p * 4, none⟩ = some (num (E p).f) ∧ V.cell? ⟨g, p * 4 + 1, none⟩ = some (num (E p).l) ∧ V.cell? ⟨g, p * 4 + 2, none⟩ = some (.slice (E p).va (E p).vn (E p).vc) ∧ V.cell? ⟨g, p * 4 + 3, none⟩ = some (.bool (E p).al)) (first | assumption | exact ⟨x0, x1, x2, x3, y0, y1, y2, y3⟩)
              (first | (go_at_call 6; refine (less_ok (E j) (E p) _).mono ?_; rintro x w2 ⟨rfl, hb⟩; have hq : w2.cell? ⟨g, j * 4, none⟩ = some (num (E j).f) ∧ w2.cell? ⟨g, j * 4 + 1, none⟩ = some (num (E j).l) ∧ w2.cell? ⟨g, j * 4 + 2, none⟩ = some (.slice (E j).va (E j).vn (E j).vc) ∧ w2.cell? ⟨g, j * 4 + 3, none⟩ = some (.bool (E j).al) ∧ w2.cell? ⟨g, p * 4, none⟩ = some (num (E p).f) ∧ w2.cell? ⟨g, p * 4 + 1, none⟩ = some (num (E p).l) ∧ w2.cell? ⟨g, p * 4 + 2, none⟩ = some (.slice (E p).va (E p).vn (E p).vc) ∧ w2.cell? ⟨g, p * 4 + 3, none⟩ = some (.bool (E p).al) := ⟨(hb.cell hgl).trans x0, (hb.cell hgl).trans x1, (hb.cell hgl).trans x2, (hb.cell hgl).trans x3, (hb.cell hgl).trans y0, (hb.cell hgl).trans y1, (hb.cell hgl).trans y2, (hb.cell hgl).trans y3⟩))
            go_wp2
            go_roundw
            case rel => exact ⟨i + 1, E, by omega, by simp, .inl (by omega), hD.done haj hji (.inr (by rw [← HP.out]; omega)), hA.below ⟨hb.os, hb.tape, hb.output, hb.size, hb.block⟩, hM, hG.trans (Gw.below ⟨hb.os, hb.tape, hb.output, hb.size, hb.block⟩)⟩
            case measure => simp [intOf]; omega
    · have g1 : ¬ (i : Int) < (b : Int) := by omega
      go_wp2
      go_end0
      exact ⟨⟨_, rfl⟩, E, hA, fun p q h1 h2 h3 => hS p q h1 h2 (by omega), hM, hG⟩
end Propose
end Go.Proofs.YbulkcrfgGreatFmt
