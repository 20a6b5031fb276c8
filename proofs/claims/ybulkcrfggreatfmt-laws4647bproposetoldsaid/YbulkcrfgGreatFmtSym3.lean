/-
  slices.symMergeCmpFunc, its middle part; stableCmpFunc, SortStableFunc.
-/
import Derived.Test.YbulkcrfgGreatFmtSymWalk
namespace Go.Proofs.YbulkcrfgGreatFmt
open Go.RowKit
namespace Propose
open Kit

set_option maxRecDepth 100000 in
set_option maxHeartbeats 8000000 in
theorem sym3 (g n cap a m b : Nat) (e : Nat → El) (w : World) (ih : IH g n cap (b - a)) (hn : n ≤ 300) (ham : a + 1 < m) (hmb : m + 1 < b) (hbn : b ≤ n) (hA : Arr w g n e) (hl : Srt e a m) (hr : Srt e m b) :
    Calls Ybaz.prog 31 #[dat g n cap, num a, num m, num b, fn] w (SortPost g n a b e w) := by
  have HA : Hid (Arr w g n e) := hA
  have e0 : ((m : Int) - (a : Int) == 1) = false := by simp; omega
  have e1 : ((b : Int) - (m : Int) == 1) = false := by simp; omega
  obtain ⟨mid, hmid⟩ : ∃ mid, mid = (a + b) / 2 := ⟨_, rfl⟩
  obtain ⟨nn, hnn⟩ : ∃ nn, nn = mid + m := ⟨_, rfl⟩
  obtain ⟨pp, hpp⟩ : ∃ pp, pp = nn - 1 := ⟨_, rfl⟩
  have hs : ((a : Int) + (b : Int)) / 2 = (mid : Int) := by omega
  have hs1 : (mid : Int) + (m : Int) = (nn : Int) := by omega
  have hs2 : (nn : Int) - 1 = (pp : Int) := by omega
  have hs3 : IntKind.i64.wrap (nn : Int) = (nn : Int) := by rw [IntKind.wrap_i64]; omega
  have hs4 : IntKind.i64.wrap (pp : Int) = (pp : Int) := by rw [IntKind.wrap_i64]; omega
  clear hA
  go_enter Ybaz.func31, Ybaz.ntmps31
  by_cases hmm : mid < m
  · skip
    have g4 : (mid : Int) < (m : Int) := by omega
    obtain ⟨lo, hlo⟩ : ∃ lo, lo = nn - b := ⟨_, rfl⟩
    have q1 : (nn : Int) - (b : Int) = (lo : Int) := by omega
    have q2 : IntKind.i64.wrap (lo : Int) = (lo : Int) := by rw [IntKind.wrap_i64]; omega
    have G : Gnd e a m b lo mid nn := ⟨hl, hr, by omega, by omega, fun c c1 c2 => by omega⟩
    have hlh : lo ≤ mid := by omega
    have HH : Hid (lo = nn - b ∧ nn = mid + m ∧ mid = (a + b) / 2 ∧ pp = nn - 1) := ⟨hlo, hnn, hmid, hpp⟩
    clear hlo hnn hmid hpp
    go_upto_region 33 with fail
    rename_i K hK
    have HK : Hid _ := hK
    clear hK
    go_loopw [20, 21] (fun v v2 wr => ∃ s r : Nat, v = num s ∧ v2 = num r ∧ Cut e lo mid nn s r ∧ Arr wr g n e ∧ Gw g w wr) (fun v v2 _ => (intOf v2).toNat - (intOf v).toNat)
    case atStart => exact ⟨lo, mid, rfl, rfl, ⟨Nat.le_refl _, hlh, Nat.le_refl _, fun c c1 c2 => by omega, fun c c1 c2 => by omega⟩, HA.out, Gw.refl _ _⟩
    case round =>
      clear HA
      obtain ⟨s, r, rfl, rfl, hC, hA, hG⟩ := hrel
      have z1 := hC.ls
      have z2 := hC.sr
      have z3 := hC.rh
      by_cases hsr : s < r
      · obtain ⟨y1, y2, y3, y4⟩ := HH.out
        have g1 : (s : Int) < (r : Int) := by omega
        obtain ⟨c, hc⟩ : ∃ c, c = (s + r) / 2 := ⟨_, rfl⟩
        obtain ⟨d, hd⟩ : ∃ d, d = nn - 1 - c := ⟨_, rfl⟩
        obtain ⟨k1, k2, k3⟩ := G.mir c (by omega) (by omega)
        have hs2 : ((s : Int) + (r : Int)) / 2 = (c : Int) := by omega
        have f1 : (pp : Int) - (c : Int) = (d : Int) := by omega
        have f2 : IntKind.i64.wrap (d : Int) = (d : Int) := by rw [IntKind.wrap_i64]; omega
        have b1 : d < n := by omega
        have b2 : c < n := by omega
        have g2 : (d : Int) < (n : Int) := by omega
        have g3 : (c : Int) < (n : Int) := by omega
        have hcs : s ≤ c ∧ c < r := by omega
        have HC : Hid (d = nn - 1 - c) := hd
        clear hc hd y1 y2 y3 y4 k1 k2 k3
        have x0 := hA.c0 b1
        have x1 := hA.c1 b1
        have x2 := hA.c2 b1
        have x3 := hA.c3 b1
        have y0 := hA.c0 b2
        have y1 := hA.c1 b2
        have y2 := hA.c2 b2
        have y3 := hA.c3 b2
        have hgl := hA.lt
        by_cases hlt : (e d).f < (e c).f
        · have hcc : decide (cmpI (e d).f (e c).f < 0) = true := by rw [cmpI_neg]; simp [hlt]
          go_upto_region 35 with fail
          go_region_held3 (fun V => V.cell? ⟨g, d * 4, none⟩ = some (num (e d).f) ∧ V.cell? ⟨g, d * 4 + 1, none⟩ = some (num (e d).l) ∧ V.cell? ⟨g, d * 4 + 2, none⟩ = some (.slice (e d).va (e d).vn (e d).vc) ∧ V.cell? ⟨g, d * 4 + 3, none⟩ = some (.bool (e d).al) ∧ V.cell? ⟨g, c * 4, none⟩ = some (num (e c).f) ∧ V.cell? ⟨g, c * 4 + 1, none⟩ = some (num (e c).l) ∧ V.cell? ⟨g, c * 4 + 2, none⟩ = some (.slice (e c).va (e c).vn (e c).vc) ∧ V.cell? ⟨g, c * 4 + 3, none⟩ = some (.bool (e c).al)) (first | assumption | exact ⟨x0, x1, x2, x3, y0, y1, y2, y3⟩)
            (first | (go_at_call 6; refine (less_ok (e d) (e c) _).mono ?_; rintro x w2 ⟨rfl, hb⟩; have hq : w2.cell? ⟨g, d * 4, none⟩ = some (num (e d).f) ∧ w2.cell? ⟨g, d * 4 + 1, none⟩ = some (num (e d).l) ∧ w2.cell? ⟨g, d * 4 + 2, none⟩ = some (.slice (e d).va (e d).vn (e d).vc) ∧ w2.cell? ⟨g, d * 4 + 3, none⟩ = some (.bool (e d).al) ∧ w2.cell? ⟨g, c * 4, none⟩ = some (num (e c).f) ∧ w2.cell? ⟨g, c * 4 + 1, none⟩ = some (num (e c).l) ∧ w2.cell? ⟨g, c * 4 + 2, none⟩ = some (.slice (e c).va (e c).vn (e c).vc) ∧ w2.cell? ⟨g, c * 4 + 3, none⟩ = some (.bool (e c).al) := ⟨(hb.cell hgl).trans x0, (hb.cell hgl).trans x1, (hb.cell hgl).trans x2, (hb.cell hgl).trans x3, (hb.cell hgl).trans y0, (hb.cell hgl).trans y1, (hb.cell hgl).trans y2, (hb.cell hgl).trans y3⟩))
          have hb' : Below wr.heap.size wr w2 := ⟨hb.os, hb.tape, hb.output, hb.size, hb.block⟩
          have hA2 := hA.below hb'
          have hG2 := hG.trans (Gw.below (g := g) hb')
          go_wp2
          go_roundw
          case rel => exact ⟨s, c, rfl, rfl, hC.dn G hcs.1 hcs.2 (by rw [← HC.out]; exact hlt), hA2, hG2⟩
          case measure => simp [intOf]; omega
        · have hcc : decide (cmpI (e d).f (e c).f < 0) = false := by rw [cmpI_neg]; simp; omega
          go_upto_region 35 with fail
          go_region_held3 (fun V => V.cell? ⟨g, d * 4, none⟩ = some (num (e d).f) ∧ V.cell? ⟨g, d * 4 + 1, none⟩ = some (num (e d).l) ∧ V.cell? ⟨g, d * 4 + 2, none⟩ = some (.slice (e d).va (e d).vn (e d).vc) ∧ V.cell? ⟨g, d * 4 + 3, none⟩ = some (.bool (e d).al) ∧ V.cell? ⟨g, c * 4, none⟩ = some (num (e c).f) ∧ V.cell? ⟨g, c * 4 + 1, none⟩ = some (num (e c).l) ∧ V.cell? ⟨g, c * 4 + 2, none⟩ = some (.slice (e c).va (e c).vn (e c).vc) ∧ V.cell? ⟨g, c * 4 + 3, none⟩ = some (.bool (e c).al)) (first | assumption | exact ⟨x0, x1, x2, x3, y0, y1, y2, y3⟩)
            (first | (go_at_call 6; refine (less_ok (e d) (e c) _).mono ?_; rintro x w2 ⟨rfl, hb⟩; have hq : w2.cell? ⟨g, d * 4, none⟩ = some (num (e d).f) ∧ w2.cell? ⟨g, d * 4 + 1, none⟩ = some (num (e d).l) ∧ w2.cell? ⟨g, d * 4 + 2, none⟩ = some (.slice (e d).va (e d).vn (e d).vc) ∧ w2.cell? ⟨g, d * 4 + 3, none⟩ = some (.bool (e d).al) ∧ w2.cell? ⟨g, c * 4, none⟩ = some (num (e c).f) ∧ w2.cell? ⟨g, c * 4 + 1, none⟩ = some (num (e c).l) ∧ w2.cell? ⟨g, c * 4 + 2, none⟩ = some (.slice (e c).va (e c).vn (e c).vc) ∧ w2.cell? ⟨g, c * 4 + 3, none⟩ = some (.bool (e c).al) := ⟨(hb.cell hgl).trans x0, (hb.cell hgl).trans x1, (hb.cell hgl).trans x2, (hb.cell hgl).trans x3, (hb.cell hgl).trans y0, (hb.cell hgl).trans y1, (hb.cell hgl).trans y2, (hb.cell hgl).trans y3⟩))
          have hb' : Below wr.heap.size wr w2 := ⟨hb.os, hb.tape, hb.output, hb.size, hb.block⟩
          have hA2 := hA.below hb'
          have hG2 := hG.trans (Gw.below (g := g) hb')
          go_wp2
          go_roundw
          case rel => exact ⟨c + 1, r, by simp, rfl, hC.up G hcs.1 hcs.2 (by rw [← HC.out]; omega), hA2, hG2⟩
          case measure => simp [intOf]; omega
      · obtain rfl : s = r := by omega
        have g1 : ¬ ((s : Int) < (s : Int)) := by omega
        go_wp2
        obtain ⟨y1, y2, y3, y4⟩ := HH.out
        refine HK.out _ _ (tail38 (t := nn - s) ih hn hbn (by omega) (by omega) hA hG hl hr (by omega) (by omega) (by omega) (by omega) (by omega) (by omega) (by omega) (by omega) (fun k1 k2 => ?_) (fun k1 k2 => ?_))
        · have := hC.low (s - 1) (by omega) (by omega)
          rwa [show nn - 1 - (s - 1) = nn - s by omega] at this
        · have := hC.high s (Nat.le_refl _) (by omega)
          rw [show nn - 1 - s = nn - s - 1 by omega] at this
          omega
  · skip
    have g4 : ¬ (mid : Int) < (m : Int) := by omega
    have G : Gnd e a m b a m nn := ⟨hl, hr, by omega, by omega, fun c c1 c2 => by omega⟩
    have hlh : a ≤ m := by omega
    have HH : Hid (True ∧ nn = mid + m ∧ mid = (a + b) / 2 ∧ pp = nn - 1) := ⟨trivial, hnn, hmid, hpp⟩
    clear hnn hmid hpp
    go_upto_region 33 with fail
    rename_i K hK
    have HK : Hid _ := hK
    clear hK
    go_loopw [20, 21] (fun v v2 wr => ∃ s r : Nat, v = num s ∧ v2 = num r ∧ Cut e a m nn s r ∧ Arr wr g n e ∧ Gw g w wr) (fun v v2 _ => (intOf v2).toNat - (intOf v).toNat)
    case atStart => exact ⟨a, m, rfl, rfl, ⟨Nat.le_refl _, hlh, Nat.le_refl _, fun c c1 c2 => by omega, fun c c1 c2 => by omega⟩, HA.out, Gw.refl _ _⟩
    case round =>
      clear HA
      obtain ⟨s, r, rfl, rfl, hC, hA, hG⟩ := hrel
      have z1 := hC.ls
      have z2 := hC.sr
      have z3 := hC.rh
      by_cases hsr : s < r
      · obtain ⟨y1, y2, y3, y4⟩ := HH.out
        have g1 : (s : Int) < (r : Int) := by omega
        obtain ⟨c, hc⟩ : ∃ c, c = (s + r) / 2 := ⟨_, rfl⟩
        obtain ⟨d, hd⟩ : ∃ d, d = nn - 1 - c := ⟨_, rfl⟩
        obtain ⟨k1, k2, k3⟩ := G.mir c (by omega) (by omega)
        have hs2 : ((s : Int) + (r : Int)) / 2 = (c : Int) := by omega
        have f1 : (pp : Int) - (c : Int) = (d : Int) := by omega
        have f2 : IntKind.i64.wrap (d : Int) = (d : Int) := by rw [IntKind.wrap_i64]; omega
        have b1 : d < n := by omega
        have b2 : c < n := by omega
        have g2 : (d : Int) < (n : Int) := by omega
        have g3 : (c : Int) < (n : Int) := by omega
        have hcs : s ≤ c ∧ c < r := by omega
        have HC : Hid (d = nn - 1 - c) := hd
        clear hc hd y1 y2 y3 y4 k1 k2 k3
        have x0 := hA.c0 b1
        have x1 := hA.c1 b1
        have x2 := hA.c2 b1
        have x3 := hA.c3 b1
        have y0 := hA.c0 b2
        have y1 := hA.c1 b2
        have y2 := hA.c2 b2
        have y3 := hA.c3 b2
        have hgl := hA.lt
        by_cases hlt : (e d).f < (e c).f
        · have hcc : decide (cmpI (e d).f (e c).f < 0) = true := by rw [cmpI_neg]; simp [hlt]
          go_upto_region 35 with fail
          go_region_held3 (fun V => V.cell? ⟨g, d * 4, none⟩ = some (num (e d).f) ∧ V.cell? ⟨g, d * 4 + 1, none⟩ = some (num (e d).l) ∧ V.cell? ⟨g, d * 4 + 2, none⟩ = some (.slice (e d).va (e d).vn (e d).vc) ∧ V.cell? ⟨g, d * 4 + 3, none⟩ = some (.bool (e d).al) ∧ V.cell? ⟨g, c * 4, none⟩ = some (num (e c).f) ∧ V.cell? ⟨g, c * 4 + 1, none⟩ = some (num (e c).l) ∧ V.cell? ⟨g, c * 4 + 2, none⟩ = some (.slice (e c).va (e c).vn (e c).vc) ∧ V.cell? ⟨g, c * 4 + 3, none⟩ = some (.bool (e c).al)) (first | assumption | exact ⟨x0, x1, x2, x3, y0, y1, y2, y3⟩)
            (first | (go_at_call 6; refine (less_ok (e d) (e c) _).mono ?_; rintro x w2 ⟨rfl, hb⟩; have hq : w2.cell? ⟨g, d * 4, none⟩ = some (num (e d).f) ∧ w2.cell? ⟨g, d * 4 + 1, none⟩ = some (num (e d).l) ∧ w2.cell? ⟨g, d * 4 + 2, none⟩ = some (.slice (e d).va (e d).vn (e d).vc) ∧ w2.cell? ⟨g, d * 4 + 3, none⟩ = some (.bool (e d).al) ∧ w2.cell? ⟨g, c * 4, none⟩ = some (num (e c).f) ∧ w2.cell? ⟨g, c * 4 + 1, none⟩ = some (num (e c).l) ∧ w2.cell? ⟨g, c * 4 + 2, none⟩ = some (.slice (e c).va (e c).vn (e c).vc) ∧ w2.cell? ⟨g, c * 4 + 3, none⟩ = some (.bool (e c).al) := ⟨(hb.cell hgl).trans x0, (hb.cell hgl).trans x1, (hb.cell hgl).trans x2, (hb.cell hgl).trans x3, (hb.cell hgl).trans y0, (hb.cell hgl).trans y1, (hb.cell hgl).trans y2, (hb.cell hgl).trans y3⟩))
          have hb' : Below wr.heap.size wr w2 := ⟨hb.os, hb.tape, hb.output, hb.size, hb.block⟩
          have hA2 := hA.below hb'
          have hG2 := hG.trans (Gw.below (g := g) hb')
          go_wp2
          go_roundw
          case rel => exact ⟨s, c, rfl, rfl, hC.dn G hcs.1 hcs.2 (by rw [← HC.out]; exact hlt), hA2, hG2⟩
          case measure => simp [intOf]; omega
        · have hcc : decide (cmpI (e d).f (e c).f < 0) = false := by rw [cmpI_neg]; simp; omega
          go_upto_region 35 with fail
          go_region_held3 (fun V => V.cell? ⟨g, d * 4, none⟩ = some (num (e d).f) ∧ V.cell? ⟨g, d * 4 + 1, none⟩ = some (num (e d).l) ∧ V.cell? ⟨g, d * 4 + 2, none⟩ = some (.slice (e d).va (e d).vn (e d).vc) ∧ V.cell? ⟨g, d * 4 + 3, none⟩ = some (.bool (e d).al) ∧ V.cell? ⟨g, c * 4, none⟩ = some (num (e c).f) ∧ V.cell? ⟨g, c * 4 + 1, none⟩ = some (num (e c).l) ∧ V.cell? ⟨g, c * 4 + 2, none⟩ = some (.slice (e c).va (e c).vn (e c).vc) ∧ V.cell? ⟨g, c * 4 + 3, none⟩ = some (.bool (e c).al)) (first | assumption | exact ⟨x0, x1, x2, x3, y0, y1, y2, y3⟩)
            (first | (go_at_call 6; refine (less_ok (e d) (e c) _).mono ?_; rintro x w2 ⟨rfl, hb⟩; have hq : w2.cell? ⟨g, d * 4, none⟩ = some (num (e d).f) ∧ w2.cell? ⟨g, d * 4 + 1, none⟩ = some (num (e d).l) ∧ w2.cell? ⟨g, d * 4 + 2, none⟩ = some (.slice (e d).va (e d).vn (e d).vc) ∧ w2.cell? ⟨g, d * 4 + 3, none⟩ = some (.bool (e d).al) ∧ w2.cell? ⟨g, c * 4, none⟩ = some (num (e c).f) ∧ w2.cell? ⟨g, c * 4 + 1, none⟩ = some (num (e c).l) ∧ w2.cell? ⟨g, c * 4 + 2, none⟩ = some (.slice (e c).va (e c).vn (e c).vc) ∧ w2.cell? ⟨g, c * 4 + 3, none⟩ = some (.bool (e c).al) := ⟨(hb.cell hgl).trans x0, (hb.cell hgl).trans x1, (hb.cell hgl).trans x2, (hb.cell hgl).trans x3, (hb.cell hgl).trans y0, (hb.cell hgl).trans y1, (hb.cell hgl).trans y2, (hb.cell hgl).trans y3⟩))
          have hb' : Below wr.heap.size wr w2 := ⟨hb.os, hb.tape, hb.output, hb.size, hb.block⟩
          have hA2 := hA.below hb'
          have hG2 := hG.trans (Gw.below (g := g) hb')
          go_wp2
          go_roundw
          case rel => exact ⟨c + 1, r, by simp, rfl, hC.up G hcs.1 hcs.2 (by rw [← HC.out]; omega), hA2, hG2⟩
          case measure => simp [intOf]; omega
      · obtain rfl : s = r := by omega
        have g1 : ¬ ((s : Int) < (s : Int)) := by omega
        go_wp2
        obtain ⟨y1, y2, y3, y4⟩ := HH.out
        refine HK.out _ _ (tail38 (t := nn - s) ih hn hbn (by omega) (by omega) hA hG hl hr (by omega) (by omega) (by omega) (by omega) (by omega) (by omega) (by omega) (by omega) (fun k1 k2 => ?_) (fun k1 k2 => ?_))
        · have := hC.low (s - 1) (by omega) (by omega)
          rwa [show nn - 1 - (s - 1) = nn - s by omega] at this
        · have := hC.high s (Nat.le_refl _) (by omega)
          rw [show nn - 1 - s = nn - s - 1 by omega] at this
          omega

/-- symMerge: two sorted runs become one. -/
theorem symMerge_ok (g n cap : Nat) (hn : n ≤ 300) : ∀ sz, IH g n cap sz
  | 0 => fun a m b E W h1 h2 _ h4 => by omega
  | sz + 1 => fun a m b E W h1 h2 h3 h4 hA hl hr => by
    by_cases c1 : m = a + 1
    · exact sym1 g n cap a m b E W hn c1 h2 h3 hA hr
    · by_cases c2 : b = m + 1
      · exact sym2 g n cap a m b E W hn (by omega) c2 h3 hA hl
      · exact sym3 g n cap a m b E W (fun a' m' b' E' W' k1 k2 k3 k4 => symMerge_ok g n cap hn sz a' m' b' E' W' k1 k2 k3 (by omega)) hn (by omega) (by omega) h3 hA hl hr
end Propose
end Go.Proofs.YbulkcrfgGreatFmt
