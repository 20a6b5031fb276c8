/-
  slices.symMergeCmpFunc, walked.
-/
import Derived.Test.YbulkcrfgGreatFmtSym
namespace Go.Proofs.YbulkcrfgGreatFmt
open Go.RowKit
namespace Propose
open Kit

def SortPost (g n a b : Nat) (e : Nat → El) (w : World) (x : Ending) (w' : World) : Prop := (∃ v, x = .returned v) ∧ ∃ E, Arr w' g n E ∧ Srt E a b ∧ Mem e E a b ∧ Gw g w w'

set_option maxRecDepth 100000 in
set_option maxHeartbeats 8000000 in
theorem sym1 (g n cap a m b : Nat) (e : Nat → El) (w : World) (hn : n ≤ 300) (hm : m = a + 1) (hab : m < b) (hb : b ≤ n) (hA : Arr w g n e) (hr : Srt e m b) :
    Calls Ybaz.prog 31 #[dat g n cap, num a, num m, num b, fn] w (SortPost g n a b e w) := by
  have HA : Hid (Arr w g n e) := hA
  have e0 : (m : Int) - (a : Int) = 1 := by omega
  have ham : a < m := by omega
  have HM : Hid (m = a + 1) := hm
  clear hA hm
  go_enter Ybaz.func31, Ybaz.ntmps31
  go_upto_region 3 with fail
  go_loopw [10, 11] (fun v v2 wr => ∃ i j : Nat, m ≤ i ∧ i ≤ j ∧ j ≤ b ∧ v = num i ∧ v2 = num j ∧ (∀ p, m ≤ p → p < i → (e p).f ≤ (e a).f) ∧ (∀ p, j ≤ p → p < b → (e a).f ≤ (e p).f) ∧ Arr wr g n e ∧ Gw g w wr) (fun v v2 _ => (intOf v2).toNat - (intOf v).toNat)
  case atStart => exact ⟨m, b, Nat.le_refl _, by omega, Nat.le_refl _, rfl, rfl, fun p h1 h2 => by omega, fun p h1 h2 => by omega, HA.out, Gw.refl _ _⟩
  case round =>
    clear HA
    obtain ⟨i, j, h1, h2, h3, rfl, rfl, hlo, hhi, hA, hG⟩ := hrel
    by_cases hij : i < j
    · have g1 : (i : Int) < (j : Int) := by omega
      obtain ⟨h, hh⟩ : ∃ h, h = (i + j) / 2 := ⟨_, rfl⟩
      have hs : ((i : Int) + (j : Int)) / 2 = (h : Int) := by omega
      have b1 : h < n := by omega
      have b2 : a < n := by omega
      have g2 : (h : Int) < (n : Int) := by omega
      have g3 : (a : Int) < (n : Int) := by omega
      have x0 := hA.c0 b1
      have x1 := hA.c1 b1
      have x2 := hA.c2 b1
      have x3 := hA.c3 b1
      have y0 := hA.c0 b2
      have y1 := hA.c1 b2
      have y2 := hA.c2 b2
      have y3 := hA.c3 b2
      have hgl := hA.lt
      have HH : Hid (h = (i + j) / 2) := hh
      clear hh
      by_cases hl : (e h).f < (e a).f
      · have hc : decide (cmpI (e h).f (e a).f < 0) = true := by rw [cmpI_neg]; simp [hl]
        go_upto_region 5 with fail
        go_region_held3 (fun V => V.cell? ⟨g, h * 4, none⟩ = some (num (e h).f) ∧ V.cell? ⟨g, h * 4 + 1, none⟩ = some (num (e h).l) ∧ V.cell? ⟨g, h * 4 + 2, none⟩ = some (.slice (e h).va (e h).vn (e h).vc) ∧ V.cell? ⟨g, h * 4 + 3, none⟩ = some (.bool (e h).al) ∧ V.cell? ⟨g, a * 4, none⟩ = some (num (e a).f) ∧ V.cell? ⟨g, a * 4 + 1, none⟩ = some (num (e a).l) ∧ V.cell? ⟨g, a * 4 + 2, none⟩ = some (.slice (e a).va (e a).vn (e a).vc) ∧ V.cell? ⟨g, a * 4 + 3, none⟩ = some (.bool (e a).al)) (first | assumption | exact ⟨x0, x1, x2, x3, y0, y1, y2, y3⟩)
          (first | (go_at_call 6; refine (less_ok (e h) (e a) _).mono ?_; rintro x w2 ⟨rfl, hb⟩; have hq : w2.cell? ⟨g, h * 4, none⟩ = some (num (e h).f) ∧ w2.cell? ⟨g, h * 4 + 1, none⟩ = some (num (e h).l) ∧ w2.cell? ⟨g, h * 4 + 2, none⟩ = some (.slice (e h).va (e h).vn (e h).vc) ∧ w2.cell? ⟨g, h * 4 + 3, none⟩ = some (.bool (e h).al) ∧ w2.cell? ⟨g, a * 4, none⟩ = some (num (e a).f) ∧ w2.cell? ⟨g, a * 4 + 1, none⟩ = some (num (e a).l) ∧ w2.cell? ⟨g, a * 4 + 2, none⟩ = some (.slice (e a).va (e a).vn (e a).vc) ∧ w2.cell? ⟨g, a * 4 + 3, none⟩ = some (.bool (e a).al) := ⟨(hb.cell hgl).trans x0, (hb.cell hgl).trans x1, (hb.cell hgl).trans x2, (hb.cell hgl).trans x3, (hb.cell hgl).trans y0, (hb.cell hgl).trans y1, (hb.cell hgl).trans y2, (hb.cell hgl).trans y3⟩))
        have hb' : Below wr.heap.size wr w2 := ⟨hb.os, hb.tape, hb.output, hb.size, hb.block⟩
        have hA2 := hA.below hb'
        have hG2 := hG.trans (Gw.below (g := g) hb')
        go_wp2
        go_roundw
        case rel =>
          have hh := HH.out
          exact ⟨h + 1, j, by omega, by omega, h3, by simp, rfl, fun p p1 p2 => Nat.le_trans (hr p h p1 (by omega) (by omega)) (Nat.le_of_lt hl), hhi, hA2, hG2⟩
        case measure => have hh := HH.out; simp [intOf]; omega
      · have hc : decide (cmpI (e h).f (e a).f < 0) = false := by rw [cmpI_neg]; simp; omega
        go_upto_region 5 with fail
        go_region_held3 (fun V => V.cell? ⟨g, h * 4, none⟩ = some (num (e h).f) ∧ V.cell? ⟨g, h * 4 + 1, none⟩ = some (num (e h).l) ∧ V.cell? ⟨g, h * 4 + 2, none⟩ = some (.slice (e h).va (e h).vn (e h).vc) ∧ V.cell? ⟨g, h * 4 + 3, none⟩ = some (.bool (e h).al) ∧ V.cell? ⟨g, a * 4, none⟩ = some (num (e a).f) ∧ V.cell? ⟨g, a * 4 + 1, none⟩ = some (num (e a).l) ∧ V.cell? ⟨g, a * 4 + 2, none⟩ = some (.slice (e a).va (e a).vn (e a).vc) ∧ V.cell? ⟨g, a * 4 + 3, none⟩ = some (.bool (e a).al)) (first | assumption | exact ⟨x0, x1, x2, x3, y0, y1, y2, y3⟩)
          (first | (go_at_call 6; refine (less_ok (e h) (e a) _).mono ?_; rintro x w2 ⟨rfl, hb⟩; have hq : w2.cell? ⟨g, h * 4, none⟩ = some (num (e h).f) ∧ w2.cell? ⟨g, h * 4 + 1, none⟩ = some (num (e h).l) ∧ w2.cell? ⟨g, h * 4 + 2, none⟩ = some (.slice (e h).va (e h).vn (e h).vc) ∧ w2.cell? ⟨g, h * 4 + 3, none⟩ = some (.bool (e h).al) ∧ w2.cell? ⟨g, a * 4, none⟩ = some (num (e a).f) ∧ w2.cell? ⟨g, a * 4 + 1, none⟩ = some (num (e a).l) ∧ w2.cell? ⟨g, a * 4 + 2, none⟩ = some (.slice (e a).va (e a).vn (e a).vc) ∧ w2.cell? ⟨g, a * 4 + 3, none⟩ = some (.bool (e a).al) := ⟨(hb.cell hgl).trans x0, (hb.cell hgl).trans x1, (hb.cell hgl).trans x2, (hb.cell hgl).trans x3, (hb.cell hgl).trans y0, (hb.cell hgl).trans y1, (hb.cell hgl).trans y2, (hb.cell hgl).trans y3⟩))
        have hb' : Below wr.heap.size wr w2 := ⟨hb.os, hb.tape, hb.output, hb.size, hb.block⟩
        have hA2 := hA.below hb'
        have hG2 := hG.trans (Gw.below (g := g) hb')
        go_wp2
        go_roundw
        case rel =>
          have hh := HH.out
          exact ⟨i, h, h1, by omega, by omega, rfl, rfl, hlo, fun p p1 p2 => Nat.le_trans (by omega) (hr h p (by omega) p1 p2), hA2, hG2⟩
        case measure => have hh := HH.out; simp [intOf]; omega
    · obtain rfl : i = j := by omega
      obtain ⟨q, rfl⟩ : ∃ q, i = q + 1 := ⟨i - 1, by omega⟩
      have g1 : ¬ ((q : Int) + 1 < (q : Int) + 1) := by omega
      have hm := HM.out
      have hsr := mvU_srt (by rw [← hm]; exact hr) (by omega) h3 (fun p p1 p2 => hlo p (by omega) p2) hhi
      rw [Nat.add_sub_cancel] at hsr
      clear hm
      clear hlo hhi
      go_upto_region 9 with fail
      go_loopw [13] (fun v wr => ∃ k : Nat, a ≤ k ∧ k ≤ q ∧ v = num k ∧ Arr wr g n (mvU e a k) ∧ Gw g w wr) (fun v _ => q - (intOf v).toNat)
      case atStart => exact ⟨a, Nat.le_refl _, by omega, rfl, by rw [mvU_zero]; exact hA, hG⟩
      case round =>
        clear hA hG
        rename_i wr2
        obtain ⟨k, hak, hkq, rfl, hA, hG⟩ := hrel
        by_cases hlt : k < q
        · have g2 : (k : Int) < (q : Int) := by omega
          have g3 : (k : Int) < (n : Int) := by omega
          have g4 : (k : Int) + 1 < (n : Int) := by omega
          have b1 : k < n := by omega
          have b2 : k + 1 < n := by omega
          generalize hE : mvU e a k = E at hA
          have x0 := hA.c0 b1
          have x1 := hA.c1 b1
          have x2 := hA.c2 b1
          have x3 := hA.c3 b1
          have y0 := hA.c0 b2
          have y1 := hA.c1 b2
          have y2 := hA.c2 b2
          have y3 := hA.c3 b2
          have hgl := hA.lt
          have fz := hA.fz
          have hsw := hA.swapped b1 b2
          go_upto_region 11 with fail
          go_region
          go_wp2
          go_roundw
          case rel =>
            have e2 : swp E k (k + 1) = mvU e a (k + 1) := by rw [← hE]; exact mvU_succ e a k hak
            refine ⟨k + 1, by omega, by omega, by simp, ?_, hG.trans hsw.2⟩
            rw [← e2]
            exact hsw.1
          case measure => simp [intOf]; omega
        · obtain rfl : k = q := by omega
          go_wp2
          go_end0
          exact ⟨⟨_, rfl⟩, _, hA, hsr, mvU_mem e hak (by omega), hG⟩
set_option maxRecDepth 100000 in
set_option maxHeartbeats 8000000 in
theorem sym2 (g n cap a m b : Nat) (e : Nat → El) (w : World) (hn : n ≤ 300) (ham : a + 1 < m) (hm : b = m + 1) (hb : b ≤ n) (hA : Arr w g n e) (hl : Srt e a m) :
    Calls Ybaz.prog 31 #[dat g n cap, num a, num m, num b, fn] w (SortPost g n a b e w) := by
  have HA : Hid (Arr w g n e) := hA
  have e0 : ((m : Int) - (a : Int) == 1) = false := by simp; omega
  have e1 : (b : Int) - (m : Int) = 1 := by omega
  have hmb : m < b := by omega
  have HM : Hid (b = m + 1) := hm
  clear hA hm
  go_enter Ybaz.func31, Ybaz.ntmps31
  go_upto_region 15 with fail
  go_loopw [14, 15] (fun v v2 wr => ∃ i j : Nat, a ≤ i ∧ i ≤ j ∧ j ≤ m ∧ v = num i ∧ v2 = num j ∧ (∀ p, a ≤ p → p < i → (e p).f ≤ (e m).f) ∧ (∀ p, j ≤ p → p < m → (e m).f ≤ (e p).f) ∧ Arr wr g n e ∧ Gw g w wr) (fun v v2 _ => (intOf v2).toNat - (intOf v).toNat)
  case atStart => exact ⟨a, m, Nat.le_refl _, by omega, Nat.le_refl _, rfl, rfl, fun p h1 h2 => by omega, fun p h1 h2 => by omega, HA.out, Gw.refl _ _⟩
  case round =>
    clear HA
    obtain ⟨i, j, h1, h2, h3, rfl, rfl, hlo, hhi, hA, hG⟩ := hrel
    by_cases hij : i < j
    · have g1 : (i : Int) < (j : Int) := by omega
      obtain ⟨h, hh⟩ : ∃ h, h = (i + j) / 2 := ⟨_, rfl⟩
      have hs : ((i : Int) + (j : Int)) / 2 = (h : Int) := by omega
      have b1 : m < n := by omega
      have b2 : h < n := by omega
      have g2 : (m : Int) < (n : Int) := by omega
      have g3 : (h : Int) < (n : Int) := by omega
      have x0 := hA.c0 b1
      have x1 := hA.c1 b1
      have x2 := hA.c2 b1
      have x3 := hA.c3 b1
      have y0 := hA.c0 b2
      have y1 := hA.c1 b2
      have y2 := hA.c2 b2
      have y3 := hA.c3 b2
      have hgl := hA.lt
      have HH : Hid (h = (i + j) / 2) := hh
      clear hh
      by_cases hlt : (e m).f < (e h).f
      · have hc : decide (cmpI (e m).f (e h).f < 0) = true := by rw [cmpI_neg]; simp [hlt]
        go_upto_region 17 with fail
        go_region_held3 (fun V => V.cell? ⟨g, m * 4, none⟩ = some (num (e m).f) ∧ V.cell? ⟨g, m * 4 + 1, none⟩ = some (num (e m).l) ∧ V.cell? ⟨g, m * 4 + 2, none⟩ = some (.slice (e m).va (e m).vn (e m).vc) ∧ V.cell? ⟨g, m * 4 + 3, none⟩ = some (.bool (e m).al) ∧ V.cell? ⟨g, h * 4, none⟩ = some (num (e h).f) ∧ V.cell? ⟨g, h * 4 + 1, none⟩ = some (num (e h).l) ∧ V.cell? ⟨g, h * 4 + 2, none⟩ = some (.slice (e h).va (e h).vn (e h).vc) ∧ V.cell? ⟨g, h * 4 + 3, none⟩ = some (.bool (e h).al)) (first | assumption | exact ⟨x0, x1, x2, x3, y0, y1, y2, y3⟩)
          (first | (go_at_call 6; refine (less_ok (e m) (e h) _).mono ?_; rintro x w2 ⟨rfl, hb⟩; have hq : w2.cell? ⟨g, m * 4, none⟩ = some (num (e m).f) ∧ w2.cell? ⟨g, m * 4 + 1, none⟩ = some (num (e m).l) ∧ w2.cell? ⟨g, m * 4 + 2, none⟩ = some (.slice (e m).va (e m).vn (e m).vc) ∧ w2.cell? ⟨g, m * 4 + 3, none⟩ = some (.bool (e m).al) ∧ w2.cell? ⟨g, h * 4, none⟩ = some (num (e h).f) ∧ w2.cell? ⟨g, h * 4 + 1, none⟩ = some (num (e h).l) ∧ w2.cell? ⟨g, h * 4 + 2, none⟩ = some (.slice (e h).va (e h).vn (e h).vc) ∧ w2.cell? ⟨g, h * 4 + 3, none⟩ = some (.bool (e h).al) := ⟨(hb.cell hgl).trans x0, (hb.cell hgl).trans x1, (hb.cell hgl).trans x2, (hb.cell hgl).trans x3, (hb.cell hgl).trans y0, (hb.cell hgl).trans y1, (hb.cell hgl).trans y2, (hb.cell hgl).trans y3⟩))
        have hb' : Below wr.heap.size wr w2 := ⟨hb.os, hb.tape, hb.output, hb.size, hb.block⟩
        have hA2 := hA.below hb'
        have hG2 := hG.trans (Gw.below (g := g) hb')
        go_wp2
        go_roundw
        case rel =>
          have hh := HH.out
          exact ⟨i, h, h1, by omega, by omega, rfl, rfl, hlo, fun p p1 p2 => Nat.le_trans (Nat.le_of_lt hlt) (hl h p (by omega) p1 p2), hA2, hG2⟩
        case measure => have hh := HH.out; simp [intOf]; omega
      · have hc : decide (cmpI (e m).f (e h).f < 0) = false := by rw [cmpI_neg]; simp; omega
        go_upto_region 17 with fail
        go_region_held3 (fun V => V.cell? ⟨g, m * 4, none⟩ = some (num (e m).f) ∧ V.cell? ⟨g, m * 4 + 1, none⟩ = some (num (e m).l) ∧ V.cell? ⟨g, m * 4 + 2, none⟩ = some (.slice (e m).va (e m).vn (e m).vc) ∧ V.cell? ⟨g, m * 4 + 3, none⟩ = some (.bool (e m).al) ∧ V.cell? ⟨g, h * 4, none⟩ = some (num (e h).f) ∧ V.cell? ⟨g, h * 4 + 1, none⟩ = some (num (e h).l) ∧ V.cell? ⟨g, h * 4 + 2, none⟩ = some (.slice (e h).va (e h).vn (e h).vc) ∧ V.cell? ⟨g, h * 4 + 3, none⟩ = some (.bool (e h).al)) (first | assumption | exact ⟨x0, x1, x2, x3, y0, y1, y2, y3⟩)
          (first | (go_at_call 6; refine (less_ok (e m) (e h) _).mono ?_; rintro x w2 ⟨rfl, hb⟩; have hq : w2.cell? ⟨g, m * 4, none⟩ = some (num (e m).f) ∧ w2.cell? ⟨g, m * 4 + 1, none⟩ = some (num (e m).l) ∧ w2.cell? ⟨g, m * 4 + 2, none⟩ = some (.slice (e m).va (e m).vn (e m).vc) ∧ w2.cell? ⟨g, m * 4 + 3, none⟩ = some (.bool (e m).al) ∧ w2.cell? ⟨g, h * 4, none⟩ = some (num (e h).f) ∧ w2.cell? ⟨g, h * 4 + 1, none⟩ = some (num (e h).l) ∧ w2.cell? ⟨g, h * 4 + 2, none⟩ = some (.slice (e h).va (e h).vn (e h).vc) ∧ w2.cell? ⟨g, h * 4 + 3, none⟩ = some (.bool (e h).al) := ⟨(hb.cell hgl).trans x0, (hb.cell hgl).trans x1, (hb.cell hgl).trans x2, (hb.cell hgl).trans x3, (hb.cell hgl).trans y0, (hb.cell hgl).trans y1, (hb.cell hgl).trans y2, (hb.cell hgl).trans y3⟩))
        have hb' : Below wr.heap.size wr w2 := ⟨hb.os, hb.tape, hb.output, hb.size, hb.block⟩
        have hA2 := hA.below hb'
        have hG2 := hG.trans (Gw.below (g := g) hb')
        go_wp2
        go_roundw
        case rel =>
          have hh := HH.out
          exact ⟨h + 1, j, by omega, by omega, h3, by simp, rfl, fun p p1 p2 => Nat.le_trans (hl p h p1 (by omega) (by omega)) (by omega), hhi, hA2, hG2⟩
        case measure => have hh := HH.out; simp [intOf]; omega
    · obtain rfl : i = j := by omega
      have g1 : ¬ ((i : Int) < (i : Int)) := by omega
      have hsr := mvD_srt hl h1 h3 hlo hhi
      clear hlo hhi
      go_upto_region 21 with fail
      go_loopw [17] (fun v wr => ∃ k : Nat, i ≤ k ∧ k ≤ m ∧ v = num k ∧ Arr wr g n (mvD e m k) ∧ Gw g w wr) (fun v _ => (intOf v).toNat)
      case atStart => exact ⟨m, by omega, Nat.le_refl _, rfl, by rw [mvD_zero]; exact hA, hG⟩
      case round =>
        clear hA hG
        rename_i wr2
        obtain ⟨k, hik, hkm, rfl, hA, hG⟩ := hrel
        by_cases hlt : i < k
        · obtain ⟨p, hp⟩ : ∃ p, p = k - 1 := ⟨_, rfl⟩
          have g2 : (i : Int) < (k : Int) := by omega
          have f1 : (k : Int) - 1 = (p : Int) := by omega
          have f2 : IntKind.i64.wrap (p : Int) = (p : Int) := by rw [IntKind.wrap_i64]; omega
          have g3 : (k : Int) < (n : Int) := by omega
          have g4 : (p : Int) < (n : Int) := by omega
          have b1 : k < n := by omega
          have b2 : p < n := by omega
          have HP : Hid (p = k - 1) := hp
          generalize hE : mvD e m k = E at hA
          have x0 := hA.c0 b1
          have x1 := hA.c1 b1
          have x2 := hA.c2 b1
          have x3 := hA.c3 b1
          have y0 := hA.c0 b2
          have y1 := hA.c1 b2
          have y2 := hA.c2 b2
          have y3 := hA.c3 b2
          have hgl := hA.lt
          have fz := hA.fz
          have hsw := hA.swapped b1 b2
          clear hp
          go_upto_region 23 with fail
          go_region
          go_wp2
          go_roundw
          case rel =>
            have hp := HP.out
            have e2 : swp E k p = mvD e m p := by
              obtain rfl : k = p + 1 := by omega
              rw [← hE]; exact mvD_succ e m p hkm
            refine ⟨p, by omega, by omega, by simp, ?_, hG.trans hsw.2⟩
            rw [← e2]
            exact hsw.1
          case measure => have hp := HP.out; simp [intOf]; omega
        · obtain rfl : k = i := by omega
          go_wp2
          go_end0
          have hm := HM.out
          subst hm
          exact ⟨⟨_, rfl⟩, _, hA, hsr, mvD_mem e h1 h3, hG⟩
def fromR (k : Nat) : Code → Option Code
  | .region i o b => if i = k then some (.region i o b) else none
  | .seq a b => match fromR k a with
    | some c => some (.seq c b)
    | none => fromR k b
  | _ => none
noncomputable def sm43 : Code := (Ybaz.f31.body.bind (fromR 43)).getD .skip
noncomputable def sm41 : Code := (Ybaz.f31.body.bind (fromR 41)).getD .skip
noncomputable def sm38 : Code := (Ybaz.f31.body.bind (fromR 38)).getD .skip
/-- symMerge at smaller ranges. -/
def IH (g n cap sz : Nat) : Prop := ∀ (a m b : Nat) (E : Nat → El) (W : World), a < m → m < b → b ≤ n → b - a < sz → Arr W g n E → Srt E a m → Srt E m b → Calls Ybaz.prog 31 #[dat g n cap, num a, num m, num b, fn] W (SortPost g n a b E W)

set_option maxRecDepth 100000 in
set_option maxHeartbeats 8000000 in
theorem tail43 {g n cap a m b mid s t sz : Nat} {u5 u6 u7 u8 u9 u10 u11 u12 u13 u14 u15 u16 u17 u19 u21 u22 u23 u25 u26 u27 u28 u29 u30 u31 u32 u33 u34 u35 u36 u37 u38 u39 u40 u41 u42 u43 u44 u45 u46 u47 u48 u49 u50 u51 u52 u53 u54 u55 u56 u57 u58 u59 u60 u61 u62 u63 u64 u65 u66 u67 u68 u69 u70 u71 u72 u73 u74 u75 u76 u77 u78 u79 u80 u81 u82 u83 u84 u85 u86 u87 u88 u89 u90 u91 u92 u93 u94 u95 u96 u97 u98 u99 u100 u101 u102 u103 u104 u105 u106 u107 u108 u109 u110 u111 u112 u113 u114 u115 u116 u117 u118 u119 u120 u121 u122 u123 u124 u125 u126 u127 u128 u129 u130 u131 u132 u133 u134 u135 u136 u137 u138 u139 u140 u141 u142 u143 u144 u145 u146 u147 u148 u149 u150 u151 u152 u153 u154 u155 u156 u157 u158 u159 u160 u161 u162 u163 u164 u165 u166 u167 u168 u169 u170 u171 u172 u173 u174 u175 u176 u177 u178 u179 u180 u181 u182 u183 u184 u185 u186 u187 u188 u189 u190 u191 u192 u193 u194 u195 u196 u197 u198 u199 u200 u201 u202 u203 u204 u205 u206 u207 u208 u209 u210 u211 u212 u213 u214 u215 u216 u217 u218 u219 : Value} {E : Nat → El} {W : World} {Post : Ending → World → Prop} (ih : IH g n cap sz) (hbn : b ≤ n) (hsz : b - mid < sz) (hA : Arr W g n E) (h1 : mid ≤ t) (h2 : t ≤ b) (s1 : Srt E mid t) (s2 : Srt E t b)
    (fin : ∀ E3 W' v, Arr W' g n E3 → Srt E3 mid b → Mem E E3 mid b → Gw g W W' → Post (.returned v) W') :
    Code.wp Ybaz.prog sm43 (bodyPost Ybaz.prog Ybaz.f31 Post) ⟨#[dat g n cap, num a, num m, num b, fn, u5, u6, u7, u8, u9, u10, u11, u12, u13, u14, u15, u16, u17, num mid, u19, num s, u21, u22, u23, num t, u25, u26, u27, u28, u29, u30, u31, u32, u33, u34, u35, u36, u37, u38, u39, u40, u41, u42, u43, u44, u45, u46, u47, u48, u49, u50, u51, u52, u53, u54, u55, u56, u57, u58, u59, u60, u61, u62, u63, u64, u65, u66, u67, u68, u69, u70, u71, u72, u73, u74, u75, u76, u77, u78, u79, u80, u81, u82, u83, u84, u85, u86, u87, u88, u89, u90, u91, u92, u93, u94, u95, u96, u97, u98, u99, u100, u101, u102, u103, u104, u105, u106, u107, u108, u109, u110, u111, u112, u113, u114, u115, u116, u117, u118, u119, u120, u121, u122, u123, u124, u125, u126, u127, u128, u129, u130, u131, u132, u133, u134, u135, u136, u137, u138, u139, u140, u141, u142, u143, u144, u145, u146, u147, u148, u149, u150, u151, u152, u153, u154, u155, u156, u157, u158, u159, u160, u161, u162, u163, u164, u165, u166, u167, u168, u169, u170, u171, u172, u173, u174, u175, u176, u177, u178, u179, u180, u181, u182, u183, u184, u185, u186, u187, u188, u189, u190, u191, u192, u193, u194, u195, u196, u197, u198, u199, u200, u201, u202, u203, u204, u205, u206, u207, u208, u209, u210, u211, u212, u213, u214, u215, u216, u217, u218, u219], []⟩ W := by
  have HI : Hid _ := ih
  have HA : Hid (Arr W g n E) := hA
  have HF : Hid _ := fin
  clear ih hA fin
  conv => arg 2; whnf
  by_cases c1 : mid < t
  · have d1 : (mid : Int) < (t : Int) := by omega
    by_cases c2 : t < b
    · have d2 : (t : Int) < (b : Int) := by omega
      go_wp2_with (go_at_call 31; refine (HI.out mid t b E W c1 c2 hbn hsz HA.out s1 s2).mono ?_; rintro x w1 ⟨⟨v, rfl⟩, E3, q1, q2, q3, q4⟩)
      go_end0
      exact HF.out E3 w1 _ q1 q2 q3 q4
    · have d2 : ¬ (t : Int) < (b : Int) := by omega
      obtain rfl : t = b := by omega
      go_wp2
      go_end0
      exact HF.out E W _ HA.out s1 (Mem.refl _ _ _) (Gw.refl _ _)
  · have d1 : ¬ (mid : Int) < (t : Int) := by omega
    obtain rfl : t = mid := by omega
    go_wp2
    go_end0
    exact HF.out E W _ HA.out s2 (Mem.refl _ _ _) (Gw.refl _ _)

set_option maxRecDepth 100000 in
set_option maxHeartbeats 8000000 in
theorem tail41 {g n cap a m b mid s t sz : Nat} {u5 u6 u7 u8 u9 u10 u11 u12 u13 u14 u15 u16 u17 u19 u21 u22 u23 u25 u26 u27 u28 u29 u30 u31 u32 u33 u34 u35 u36 u37 u38 u39 u40 u41 u42 u43 u44 u45 u46 u47 u48 u49 u50 u51 u52 u53 u54 u55 u56 u57 u58 u59 u60 u61 u62 u63 u64 u65 u66 u67 u68 u69 u70 u71 u72 u73 u74 u75 u76 u77 u78 u79 u80 u81 u82 u83 u84 u85 u86 u87 u88 u89 u90 u91 u92 u93 u94 u95 u96 u97 u98 u99 u100 u101 u102 u103 u104 u105 u106 u107 u108 u109 u110 u111 u112 u113 u114 u115 u116 u117 u118 u119 u120 u121 u122 u123 u124 u125 u126 u127 u128 u129 u130 u131 u132 u133 u134 u135 u136 u137 u138 u139 u140 u141 u142 u143 u144 u145 u146 u147 u148 u149 u150 u151 u152 u153 u154 u155 u156 u157 u158 u159 u160 u161 u162 u163 u164 u165 u166 u167 u168 u169 u170 u171 u172 u173 u174 u175 u176 u177 u178 u179 u180 u181 u182 u183 u184 u185 u186 u187 u188 u189 u190 u191 u192 u193 u194 u195 u196 u197 u198 u199 u200 u201 u202 u203 u204 u205 u206 u207 u208 u209 u210 u211 u212 u213 u214 u215 u216 u217 u218 u219 : Value} {E : Nat → El} {W : World} {Post : Ending → World → Prop} (ih : IH g n cap sz) (hbn : b ≤ n) (hsz : b - mid < sz) (hsz2 : mid - a < sz) (hA : Arr W g n E) (h1 : mid ≤ t) (h2 : t ≤ b) (h3 : a ≤ s) (h4 : s ≤ mid) (r1 : Srt E a s) (r2 : Srt E s mid) (s1 : Srt E mid t) (s2 : Srt E t b)
    (fin : ∀ E2 E3 W' v, Arr W' g n E3 → Srt E2 a mid → Mem E E2 a mid → Srt E3 mid b → Mem E2 E3 mid b → Gw g W W' → Post (.returned v) W') :
    Code.wp Ybaz.prog sm41 (bodyPost Ybaz.prog Ybaz.f31 Post) ⟨#[dat g n cap, num a, num m, num b, fn, u5, u6, u7, u8, u9, u10, u11, u12, u13, u14, u15, u16, u17, num mid, u19, num s, u21, u22, u23, num t, u25, u26, u27, u28, u29, u30, u31, u32, u33, u34, u35, u36, u37, u38, u39, u40, u41, u42, u43, u44, u45, u46, u47, u48, u49, u50, u51, u52, u53, u54, u55, u56, u57, u58, u59, u60, u61, u62, u63, u64, u65, u66, u67, u68, u69, u70, u71, u72, u73, u74, u75, u76, u77, u78, u79, u80, u81, u82, u83, u84, u85, u86, u87, u88, u89, u90, u91, u92, u93, u94, u95, u96, u97, u98, u99, u100, u101, u102, u103, u104, u105, u106, u107, u108, u109, u110, u111, u112, u113, u114, u115, u116, u117, u118, u119, u120, u121, u122, u123, u124, u125, u126, u127, u128, u129, u130, u131, u132, u133, u134, u135, u136, u137, u138, u139, u140, u141, u142, u143, u144, u145, u146, u147, u148, u149, u150, u151, u152, u153, u154, u155, u156, u157, u158, u159, u160, u161, u162, u163, u164, u165, u166, u167, u168, u169, u170, u171, u172, u173, u174, u175, u176, u177, u178, u179, u180, u181, u182, u183, u184, u185, u186, u187, u188, u189, u190, u191, u192, u193, u194, u195, u196, u197, u198, u199, u200, u201, u202, u203, u204, u205, u206, u207, u208, u209, u210, u211, u212, u213, u214, u215, u216, u217, u218, u219], []⟩ W := by
  have HI : Hid _ := ih
  have HA : Hid (Arr W g n E) := hA
  have HF : Hid _ := fin
  clear ih hA fin
  conv => arg 2; whnf
  refine wp_seq_k (fun K hK => ?_)
  have HK : Hid _ := hK
  clear hK
  by_cases c1 : a < s
  · have d1 : (a : Int) < (s : Int) := by omega
    by_cases c2 : s < mid
    · have d2 : (s : Int) < (mid : Int) := by omega
      go_wp2_with (go_at_call 31; refine (HI.out a s mid E W c1 c2 (by omega) hsz2 HA.out r1 r2).mono ?_; rintro x w1 ⟨⟨v, rfl⟩, E2, q1, q2, q3, q4⟩)
      refine HK.out _ _ (tail43 HI.out hbn hsz q1 h1 h2 (fun p q p1 p2 p3 => ?_) (fun p q p1 p2 p3 => ?_) (fun E3 W' v x1 x2 x3 x4 => HF.out E2 E3 W' v x1 q2 q3 x2 x3 (q4.trans x4)))
      · rw [q3.2 p (by omega), q3.2 q (by omega)]; exact s1 p q p1 p2 p3
      · rw [q3.2 p (by omega), q3.2 q (by omega)]; exact s2 p q p1 p2 p3
    · have d2 : ¬ (s : Int) < (mid : Int) := by omega
      obtain rfl : s = mid := by omega
      go_wp2
      exact HK.out _ _ (tail43 HI.out hbn hsz HA.out h1 h2 s1 s2 (fun E3 W' v x1 x2 x3 x4 => HF.out E E3 W' v x1 r1 (Mem.refl _ _ _) x2 x3 x4))
  · have d1 : ¬ (a : Int) < (s : Int) := by omega
    obtain rfl : s = a := by omega
    go_wp2
    exact HK.out _ _ (tail43 HI.out hbn hsz HA.out h1 h2 s1 s2 (fun E3 W' v x1 x2 x3 x4 => HF.out E E3 W' v x1 r2 (Mem.refl _ _ _) x2 x3 x4))

set_option maxRecDepth 100000 in
set_option maxHeartbeats 8000000 in
theorem tail38 {g n cap a m b mid s t nn sz : Nat} {u5 u6 u7 u8 u9 u10 u11 u12 u13 u14 u15 u16 u17 u21 u22 u23 u24 u25 u26 u27 u28 u29 u30 u31 u32 u33 u34 u35 u36 u37 u38 u39 u40 u41 u42 u43 u44 u45 u46 u47 u48 u49 u50 u51 u52 u53 u54 u55 u56 u57 u58 u59 u60 u61 u62 u63 u64 u65 u66 u67 u68 u69 u70 u71 u72 u73 u74 u75 u76 u77 u78 u79 u80 u81 u82 u83 u84 u85 u86 u87 u88 u89 u90 u91 u92 u93 u94 u95 u96 u97 u98 u99 u100 u101 u102 u103 u104 u105 u106 u107 u108 u109 u110 u111 u112 u113 u114 u115 u116 u117 u118 u119 u120 u121 u122 u123 u124 u125 u126 u127 u128 u129 u130 u131 u132 u133 u134 u135 u136 u137 u138 u139 u140 u141 u142 u143 u144 u145 u146 u147 u148 u149 u150 u151 u152 u153 u154 u155 u156 u157 u158 u159 u160 u161 u162 u163 u164 u165 u166 u167 u168 u169 u170 u171 u172 u173 u174 u175 u176 u177 u178 u179 u180 u181 u182 u183 u184 u185 u186 u187 u188 u189 u190 u191 u192 u193 u194 u195 u196 u197 u198 u199 u200 u201 u202 u203 u204 u205 u206 u207 u208 u209 u210 u211 u212 u213 u214 u215 u216 u217 u218 u219 : Value} {e : Nat → El} {w W : World} (ih : IH g n cap sz) (hn : n ≤ 300) (hbn : b ≤ n) (hsz : b - mid < sz) (hsz2 : mid - a < sz) (hA : Arr W g n e) (hG : Gw g w W) (hl : Srt e a m) (hr : Srt e m b) (h1 : a ≤ s) (h2 : s ≤ m) (h3 : m ≤ t) (h4 : t ≤ b) (hmid : mid = s + (t - m)) (hnn : nn = s + t) (am : a ≤ mid) (mb : mid ≤ b)
    (c1 : a < s → t < b → (e (s - 1)).f ≤ (e t).f) (c2 : s < m → m < t → (e (t - 1)).f ≤ (e s).f) :
    Code.wp Ybaz.prog sm38 (bodyPost Ybaz.prog Ybaz.f31 (SortPost g n a b e w)) ⟨#[dat g n cap, num a, num m, num b, fn, u5, u6, u7, u8, u9, u10, u11, u12, u13, u14, u15, u16, u17, num mid, num nn, num s, u21, u22, u23, u24, u25, u26, u27, u28, u29, u30, u31, u32, u33, u34, u35, u36, u37, u38, u39, u40, u41, u42, u43, u44, u45, u46, u47, u48, u49, u50, u51, u52, u53, u54, u55, u56, u57, u58, u59, u60, u61, u62, u63, u64, u65, u66, u67, u68, u69, u70, u71, u72, u73, u74, u75, u76, u77, u78, u79, u80, u81, u82, u83, u84, u85, u86, u87, u88, u89, u90, u91, u92, u93, u94, u95, u96, u97, u98, u99, u100, u101, u102, u103, u104, u105, u106, u107, u108, u109, u110, u111, u112, u113, u114, u115, u116, u117, u118, u119, u120, u121, u122, u123, u124, u125, u126, u127, u128, u129, u130, u131, u132, u133, u134, u135, u136, u137, u138, u139, u140, u141, u142, u143, u144, u145, u146, u147, u148, u149, u150, u151, u152, u153, u154, u155, u156, u157, u158, u159, u160, u161, u162, u163, u164, u165, u166, u167, u168, u169, u170, u171, u172, u173, u174, u175, u176, u177, u178, u179, u180, u181, u182, u183, u184, u185, u186, u187, u188, u189, u190, u191, u192, u193, u194, u195, u196, u197, u198, u199, u200, u201, u202, u203, u204, u205, u206, u207, u208, u209, u210, u211, u212, u213, u214, u215, u216, u217, u218, u219], []⟩ W := by
  have HI : Hid _ := ih
  have HA : Hid (Arr W g n e) := hA
  obtain ⟨t1, t2, t3, t4, t5⟩ := turned hl hr h1 h2 h3 h4 hmid c1 c2
  have hmem : Mem e (rot e s m t) a b := rot_mem e h1 h2 h3 h4
  have hT : (nn : Int) - (s : Int) = (t : Int) := by omega
  have hT2 : IntKind.i64.wrap (t : Int) = (t : Int) := by rw [IntKind.wrap_i64]; omega
  have fin : ∀ W1, Gw g w W1 → ∀ E2 E3 W' v, Arr W' g n E3 → Srt E2 a mid → Mem (rot e s m t) E2 a mid → Srt E3 mid b → Mem E2 E3 mid b → Gw g W1 W' → SortPost g n a b e w (.returned v) W' := fun W1 hG1 E2 E3 W' v x1 x2 x3 x4 x5 x6 => by
    obtain ⟨y1, y2⟩ := joined am mb t5 x3 x2 x5 x4
    exact ⟨⟨v, rfl⟩, E3, x1, y1, hmem.trans y2, hG1.trans x6⟩
  have HF : Hid _ := And.intro t1 (And.intro t2 (And.intro t3 (And.intro t4 fin)))
  have m1 : mid ≤ t := by omega
  have m2 : s ≤ mid := by omega
  clear ih hA t1 t2 t3 t4 t5 fin hmem c1 c2 hmid hnn hl hr
  conv => arg 2; whnf
  refine wp_seq_k (fun K0 hK0 => ?_)
  have H0 : Hid _ := hK0
  clear hK0
  go_wp2
  refine H0.out _ _ (wp_seq_k (fun K hK => ?_))
  have HK : Hid _ := hK
  clear hK H0
  by_cases d1 : s < m
  · have d1' : (s : Int) < (m : Int) := by omega
    by_cases d2 : m < t
    · have d2' : (m : Int) < (t : Int) := by omega
      go_wp2_with (go_at_call 62; refine (rotate_ok g n cap s m t e W hn d1 d2 (by omega) HA.out).mono ?_; rintro x w1 ⟨⟨v, rfl⟩, q1, q2⟩)
      obtain ⟨t1, t2, t3, t4, fin⟩ := HF.out
      exact HK.out _ _ (tail41 HI.out hbn hsz hsz2 q1 m1 h4 h1 m2 t1 t2 t3 t4 (fin w1 (hG.trans q2)))
    · have d2' : ¬ (m : Int) < (t : Int) := by omega
      obtain ⟨t1, t2, t3, t4, fin⟩ := HF.out
      obtain rfl : t = m := by omega
      rw [rot_none2] at t1 t2 t3 t4 fin
      clear HF
      go_wp2
      exact HK.out _ _ (tail41 HI.out hbn hsz hsz2 HA.out m1 h4 h1 m2 t1 t2 t3 t4 (fin W hG))
  · have d1' : ¬ (s : Int) < (m : Int) := by omega
    obtain ⟨t1, t2, t3, t4, fin⟩ := HF.out
    obtain rfl : s = m := by omega
    rw [rot_none1] at t1 t2 t3 t4 fin
    clear HF
    go_wp2
    exact HK.out _ _ (tail41 HI.out hbn hsz hsz2 HA.out m1 h4 h1 m2 t1 t2 t3 t4 (fin W hG))

end Propose
end Go.Proofs.YbulkcrfgGreatFmt
