/-
  LawS4660CFollow: what stands behind the making of o (region 8), up to r's fresh set, as a declaration of its own.
-/
import Derived.Test.YbulkcrmgDoorTail
namespace Go.Proofs.YbulkcrmgDoor
open Go.RowKit
namespace Follow
open Kit

noncomputable def tail8 : Code := match Ybad.f3.body.bind (tl 8) with | some (some c) => c | _ => .skip

set_option maxRecDepth 1000000 in
set_option maxHeartbeats 16000000 in
theorem mid_ok {aF aA aB aH aC : Option Addr} {lF cF lA cA lB cB lH cH lC cC : Nat} {fF fA fB fH fC : Nat → Nat} {qA qB qH qR : Bool} {w wc : World} {B : Nat} {a' : Option Addr} {c' : Nat} {oc : List Value} {u9 u10 u11 u12 u13 u14 u15 u16 u17 u24 u25 u26 u27 u28 u29 u30 u31 u32 u33 u34 u35 u36 u37 u38 u39 u40 u41 u42 u43 u44 u45 u46 u47 u48 u49 u50 u51 u52 u53 u54 u55 u56 u57 u58 u59 u60 u61 u62 u63 u64 u65 u66 u67 u68 u69 u70 u71 u72 u73 u74 u75 u76 u77 u78 u79 u80 u81 u82 u83 u84 u85 u86 u87 u88 u89 u90 u91 u92 u93 u94 u95 u96 u97 u98 u99 u100 u101 u102 u103 u104 u105 u106 u107 u108 u109 u110 u111 u112 u113 u114 u115 u116 u117 u118 u119 u120 u121 u122 u123 u124 u125 u126 u127 u128 u129 u130 u131 u132 u133 u134 u135 u136 u137 u138 u139 u140 u141 u142 u143 u144 u145 u146 u147 u148 u149 u150 u151 u152 u153 u154 u155 u156 u157 u158 u159 u160 u161 u162 u163 u164 u165 u166 u167 u168 u169 u170 u171 u172 u173 u174 u175 u176 u177 u178 u179 u180 u181 u182 u183 u184 u185 u186 u187 u188 u189 u190 u191 u192 u193 u194 u195 u196 u197 u198 u199 u200 u201 u202 u203 u204 u205 u206 u207 u208 u209 u210 u211 u212 u213 u214 u215 u216 u217 u218 u219 u220 u221 u222 u223 u224 u225 u226 u227 u228 u229 u230 u231 u232 u233 u234 u235 u236 u237 u238 u239 u240 u241 u242 u243 u244 u245 u246 u247 u248 u249 u250 u251 u252 u253 u254 u255 u256 u257 u258 u259 u260 u261 u262 u263 u264 u265 u266 u267 u268 u269 u270 u271 u272 u273 u274 u275 u276 u277 u278 u279 u280 u281 u282 u283 u284 u285 u286 u287 u288 u289 u290 u291 u292 u293 u294 u295 u296 u297 u298 u299 u300 u301 u302 u303 u304 u305 u306 u307 u308 u309 u310 u311 u312 u313 u314 u315 u316 u317 u318 u319 u320 u321 u322 u323 u324 u325 u326 u327 u328 u329 u330 u331 u332 u333 u334 u335 u336 u337 u338 u339 u340 u341 u342 u343 u344 u345 u346 u347 u348 u349 : Value}
    (hlF : lF ≤ 512) (hlC : lC ≤ 1024)
    (HB : Hid ((∀ i, fF i < 18446744073709551616) ∧ (∀ i, fA i < 18446744073709551616) ∧ (∀ i, fB i < 18446744073709551616) ∧ (∀ i, fH i < 18446744073709551616) ∧ (∀ i, fC i < 18446744073709551616)))
    (HR : Hid (Reads B w aF lF fF ∧ Reads B w aC lC fC)) (HN : Hid ((aF = none → lF = 0 ∧ cF = 0) ∧ (aC = none → lC = 0 ∧ cC = 0)))
    (T0 : Tg wc B (B + 1) (B + 2) lF ((List.range lF).map (m0 lA fA), (List.range lF).map (fun _ => 9223372036854775808), qA)) (T1 : Tg wc (B + 3) (B + 4) (B + 5) lF ((List.range lF).map (m0 lB fB), (List.range lF).map (fun _ => 9223372036854775808), qB)) (TH : Tg wc (B + 6) (B + 7) (B + 8) lF ((List.range lF).map (m0 lH fH), (List.range lF).map (fun _ => 9223372036854775808), qH))
    (k1 : Row wc (B + 9) 34 oc) (k4 : oc[4]? = some (.map none)) (k5 : oc[5]? = some (.slice a' lC c')) (k9 : oc[9]? = some (.slice none 0 0)) (k12 : oc[12]? = some (.bool false)) (sC : Src wc (B + 10) a' lC fC) (x4 : Below B w wc) (kz : B + 10 ≤ wc.heap.size) :
    Code.wp Ybad.prog tail8 (bodyPost Ybad.prog Ybad.f3 (fun e w' => e = .returned (.bool true) ∧ Below B w w')) ⟨#[.slice aF lF cF, .slice aA lA cA, .slice aB lB cB, .slice aH lH cH, .slice aC lC cC, .bool qA, .bool qB, .bool qH, .bool qR, u9, u10, u11, u12, u13, u14, u15, u16, u17, .bool false, .int .i64 lF, ptr B, ptr (B + 3), ptr (B + 6), ptr (B + 9), u24, u25, u26, u27, u28, u29, u30, u31, u32, u33, u34, u35, u36, u37, u38, u39, u40, u41, u42, u43, u44, u45, u46, u47, u48, u49, u50, u51, u52, u53, u54, u55, u56, u57, u58, u59, u60, u61, u62, u63, u64, u65, u66, u67, u68, u69, u70, u71, u72, u73, u74, u75, u76, u77, u78, u79, u80, u81, u82, u83, u84, u85, u86, u87, u88, u89, u90, u91, u92, u93, u94, u95, u96, u97, u98, u99, u100, u101, u102, u103, u104, u105, u106, u107, u108, u109, u110, u111, u112, u113, u114, u115, u116, u117, u118, u119, u120, u121, u122, u123, u124, u125, u126, u127, u128, u129, u130, u131, u132, u133, u134, u135, u136, u137, u138, u139, u140, u141, u142, u143, u144, u145, u146, u147, u148, u149, u150, u151, u152, u153, u154, u155, u156, u157, u158, u159, u160, u161, u162, u163, u164, u165, u166, u167, u168, u169, u170, u171, u172, u173, u174, u175, u176, u177, u178, u179, u180, u181, u182, u183, u184, u185, u186, u187, u188, u189, u190, u191, u192, u193, u194, u195, u196, u197, u198, u199, u200, u201, u202, u203, u204, u205, u206, u207, u208, u209, u210, u211, u212, u213, u214, u215, u216, u217, u218, u219, u220, u221, u222, u223, u224, u225, u226, u227, u228, u229, u230, u231, u232, u233, u234, u235, u236, u237, u238, u239, u240, u241, u242, u243, u244, u245, u246, u247, u248, u249, u250, u251, u252, u253, u254, u255, u256, u257, u258, u259, u260, u261, u262, u263, u264, u265, u266, u267, u268, u269, u270, u271, u272, u273, u274, u275, u276, u277, u278, u279, u280, u281, u282, u283, u284, u285, u286, u287, u288, u289, u290, u291, u292, u293, u294, u295, u296, u297, u298, u299, u300, u301, u302, u303, u304, u305, u306, u307, u308, u309, u310, u311, u312, u313, u314, u315, u316, u317, u318, u319, u320, u321, u322, u323, u324, u325, u326, u327, u328, u329, u330, u331, u332, u333, u334, u335, u336, u337, u338, u339, u340, u341, u342, u343, u344, u345, u346, u347, u348, u349], []⟩ wc := by
  obtain ⟨i36, hi, hz0, hz1, hz2⟩ := info_parts Ybad.info36
  obtain ⟨Z, hZ⟩ : ∃ Z, wc.heap.size = Z := ⟨_, rfl⟩
  rw [hZ] at kz
  have sL : ∀ x, a' = some x → x.block < Z := fun x e => by rw [← hZ]; exact sC.lt x e
  have c0 : wc.cell? ⟨B, 5, none⟩ = some (dn (B + 1) lF) := by obtain ⟨⟨rc, q1, _, _, q5, _⟩, _⟩ := T0; exact (q1.cell 5).trans q5
  have c1 : wc.cell? ⟨B + 3, 5, none⟩ = some (dn (B + 4) lF) := by obtain ⟨⟨rc, q1, _, _, q5, _⟩, _⟩ := T1; exact (q1.cell 5).trans q5
  have c2 : wc.cell? ⟨B + 6, 5, none⟩ = some (dn (B + 7) lF) := by obtain ⟨⟨rc, q1, _, _, q5, _⟩, _⟩ := TH; exact (q1.cell 5).trans q5
  have m1 := (row_reads' T0.mem).up (show B + 1 + 1 ≤ Z by omega)
  have m2 := (row_reads' T1.mem).up (show B + 4 + 1 ≤ Z by omega)
  have m3 := (row_reads' TH.mem).up (show B + 7 + 1 ≤ Z by omega)
  have HP : Hid (Tg wc B (B + 1) (B + 2) lF ((List.range lF).map (m0 lA fA), (List.range lF).map (fun _ => 9223372036854775808), qA) ∧ Tg wc (B + 3) (B + 4) (B + 5) lF ((List.range lF).map (m0 lB fB), (List.range lF).map (fun _ => 9223372036854775808), qB) ∧ Tg wc (B + 6) (B + 7) (B + 8) lF ((List.range lF).map (m0 lH fH), (List.range lF).map (fun _ => 9223372036854775808), qH) ∧ Row wc (B + 9) 34 oc ∧ Src wc (B + 10) a' lC fC ∧ (∀ x, a' = some x → x.block < Z) ∧ Below B w wc) := ⟨T0, T1, TH, k1, sC, sL, x4⟩
  have HM : Hid (Reads Z wc (some ⟨B + 1, 0, none⟩) lF (m0 lA fA) ∧ Reads Z wc (some ⟨B + 4, 0, none⟩) lF (m0 lB fB) ∧ Reads Z wc (some ⟨B + 7, 0, none⟩) lF (m0 lH fH)) := ⟨m1, m2, m3⟩
  clear T0 T1 TH k1 sC sL x4 m1 m2 m3
  conv => arg 2; whnf
  go_upto_region 10 with (go_at_call 5; refine (clone_ok Z ⟨B + 1, 0, none⟩ lF lF (m0 lA fA) wc (by omega) HM.out.1 (by omega)).mono ?_; rintro e V1 ⟨rfl, s1, y1, y2⟩)
  rw [hZ] at s1 y1 y2
  replace y1 := row_clone y1
  have c1' := (y2.cell (p := ⟨B + 3, 5, none⟩) (show B + 3 < Z by omega)).trans c1
  have c2' := (y2.cell (p := ⟨B + 6, 5, none⟩) (show B + 6 < Z by omega)).trans c2
  have y3 := y2
  clear c0 c1 c2
  go_upto_region 11 with (go_at_call 5; refine (clone_ok Z ⟨B + 4, 0, none⟩ lF lF (m0 lB fB) V1 (by omega) (HM.out.2.1.below y2) (by omega)).mono ?_; rintro e V2 ⟨rfl, s2, z1, z2⟩)
  rw [s1] at s2 z1 z2
  replace z1 := row_clone z1
  replace y1 := y1.below z2 (by omega)
  have c2'' := (z2.cell (p := ⟨B + 6, 5, none⟩) (show B + 6 < Z + 1 by omega)).trans c2'
  replace y2 := y2.trans (z2.mono (by omega))
  clear c1' c2'
  go_upto_region 12 with (go_at_call 5; refine (clone_ok Z ⟨B + 7, 0, none⟩ lF lF (m0 lH fH) V2 (by omega) (HM.out.2.2.below y2) (by omega)).mono ?_; rintro e V3 ⟨rfl, s3, w1, w2⟩)
  rw [s2] at s3 w1 w2
  replace w1 := row_clone w1
  replace y1 := y1.below w2 (by omega)
  replace z1 := z1.below w2 (by omega)
  replace y2 := y2.trans (w2.mono (by omega))
  simp only [Nat.add_assoc, Nat.reduceAdd] at s2 s3 w1 ⊢
  have hQ : Q1 V3 B Z lF ((List.range lF).map (m0 lA fA), (List.range lF).map (fun _ => 9223372036854775808), qA) ((List.range lF).map (m0 lB fB), (List.range lF).map (fun _ => 9223372036854775808), qB) ((List.range lF).map (m0 lH fH), (List.range lF).map (fun _ => 9223372036854775808), qH) (m0 lA fA) (m0 lB fB) (m0 lH fH) oc a' lC fC := by
    obtain ⟨T0, T1, TH, k1, sC, sL, x4⟩ := HP.out
    exact ⟨T0.below y2 (by omega) (by omega) (by omega), T1.below y2 (by omega) (by omega) (by omega), TH.below y2 (by omega) (by omega) (by omega), k1.below y2 (by omega), sC.below y2 sL, sL, y1, z1, w1, kz⟩
  have hW3 : Below B w V3 := Below.trans HP.out.2.2.2.2.2.2 (y2.mono (by omega))
  clear HP HM y1 y2 y3 z1 z2 w1 w2 c2'' s1 s2 V1 V2
  have HQ : Hid _ := hQ
  have HW : Hid _ := hW3
  clear hQ hW3
  go_upto_region 13 with (at_make; refine wpList_make_new _ rfl _ _ _ rfl 36 i36 _ 1 Ybad.underlying22 hi hz0 hz1 .i64 .i64 lF lF lF lF rfl rfl rfl rfl (Nat.le_refl _) (by rw [hz2]; omega) (by unfold maxLen; omega) ?_; intro V4 s4 y1 y2)
  rw [made_zero, s3] at y1
  rw [s3] at s4 y2
  go_upto_region 14 with (at_make; refine wpList_make_new _ rfl _ _ _ rfl 36 i36 _ 1 Ybad.underlying22 hi hz0 hz1 .i64 .i64 lF lF lF lF rfl rfl rfl rfl (Nat.le_refl _) (by rw [hz2]; omega) (by unfold maxLen; omega) ?_; intro V5 s5 z1 z2)
  rw [made_zero, s4] at z1
  rw [s4] at s5 z2
  replace y1 := y1.below z2 (by omega)
  have hQ5 := (Q1.below HQ.out y2 (by omega)).below z2 (by omega)
  have hW5 := (Below.trans HW.out (y2.mono (by omega))).trans (z2.mono (by omega))
  clear HQ HW y2 z2 s3 s4
  have HQ : Hid _ := hQ5
  have HW : Hid _ := hW5
  have HY : Hid _ := And.intro y1 z1
  clear hQ5 hW5 y1 z1
  simp only [Nat.add_assoc, Nat.reduceAdd] at s5 HY ⊢
  go_wp2
  go_loopw [29] (fun v wr => ∃ (k : Nat) (X Y : List Nat), k ≤ lF ∧ v = .int .i64 k ∧ Row wr (Z + 3) 36 (X.map u) ∧ Row wr (Z + 4) 36 (Y.map u) ∧ X.length = lF ∧ Y.length = lF ∧
    (∀ j, j < k → X[j]? = some (fF j)) ∧ (∀ j, j < k → Y[j]? = some (fF j &&& wd lC fC j)) ∧ Below (Z + 3) V5 wr ∧ wr.heap.size = Z + 5) (fun v _ => lF - (intOf v).toNat)
  case atStart => exact ⟨0, _, _, Nat.zero_le _, rfl, HY.out.1, HY.out.2, by simp, by simp, fun j hj => by omega, fun j hj => by omega, Below.refl _ _, s5⟩
  case round =>
    obtain ⟨k, X, Y, hk, rfl, b2, b3, b4, b5, b6, b7, b8, b9⟩ := hrel
    by_cases hlt : k < lF
    · have hWr : Below B w wr := Below.trans HW.out (b8.mono (by omega))
      obtain ⟨b, off, rfl, hbl, hcF⟩ := (HR.out.1.below hWr) (by omega)
      have hF := hcF k hlt
      have hX : wr.cell? ⟨Z + 3, k, none⟩ = some (u (X[k]?.getD 0)) := by
        rw [b2.cell k, List.getElem?_map, List.getElem?_eq_getElem (by omega)]; rfl
      have hfX := b2.frozen k
      have hbz := HQ.out.bz
      have hF' : (wr.setCell ⟨Z + 3, k, none⟩ (.int .u64 (fF k : Int))).cell? ⟨b, off + k, none⟩ = some (.int .u64 (fF k : Int)) := (((Only.refl (Z + 3) wr).setCell k (.int .u64 (fF k : Int))).cell b (off + k) (by omega)).trans hF
      have hF'' : ((wr.setCell ⟨Z + 3, k, none⟩ (.int .u64 (fF k : Int))).setCell ⟨Z + 4, k, none⟩ (.int .u64 ((fF k &&& wd lC fC k : Nat) : Int))).cell? ⟨b, off + k, none⟩ = some (.int .u64 (fF k : Int)) := (((Only.refl (Z + 4) (wr.setCell ⟨Z + 3, k, none⟩ (.int .u64 (fF k : Int)))).setCell k (.int .u64 ((fF k &&& wd lC fC k : Nat) : Int))).cell b (off + k) (by omega)).trans hF'
      have b3' : Row (wr.setCell ⟨Z + 3, k, none⟩ (.int .u64 (fF k : Int))) (Z + 4) 36 (Y.map u) := b3.setOther _ _ (by simp)
      have hY : (wr.setCell ⟨Z + 3, k, none⟩ (.int .u64 (fF k : Int))).cell? ⟨Z + 4, k, none⟩ = some (u (Y[k]?.getD 0)) := by
        rw [b3'.cell k, List.getElem?_map, List.getElem?_eq_getElem (by omega)]; rfl
      have hfY := b3'.frozen k
      have hrC : Reads B (wr.setCell ⟨Z + 3, k, none⟩ (.int .u64 (fF k : Int))) aC lC fC := HR.out.2.below (hWr.setCell (p := ⟨Z + 3, k, none⟩) (by show B ≤ Z + 3; omega) _)
      have hbits : bits .and .u64 (fF k : Int) (wd lC fC k : Int) = ((fF k &&& wd lC fC k : Nat) : Int) := u64_and_nat _ _ (HB.out.1 k) (wd_lt lC fC HB.out.2.2.2.2 k)
      have hwd : (if k < lC then fC k else 0) = wd lC fC k := rfl
      have g1 : (k : Int) < (lF : Int) := by omega
      have HS : Hid _ := And.intro b2 (And.intro b3' (And.intro b6 (And.intro b7 (And.intro b8 b9))))
      have HC : Hid _ := hrC
      clear b2 b3 b3' b6 b7 b8 b9 hcF hrC hWr HY
      go_upto_region 18 with fail
      go_region_held3 (fun V => V.cell? ⟨b, off + k, none⟩ = some (.int .u64 (fF k : Int))) (first | assumption | exact hF' | exact hF'')
        (first | (go_at_call 6; refine (at_ok B aC lC cC fC k _ hlC (by omega) (by exact HC.out)).mono ?_; rintro e w1 ⟨rfl, rfl⟩; rw [hwd]))
      go_wp2
      go_roundw
      case rel =>
        have b2 : Row wr (Z + 3) 36 (X.map u) := HS.out.1
        have b3 : Row (wr.setCell ⟨Z + 3, k, none⟩ (.int .u64 (fF k : Int))) (Z + 4) 36 (Y.map u) := HS.out.2.1
        have b6 := HS.out.2.2.1
        have b7 := HS.out.2.2.2.1
        have b8 := HS.out.2.2.2.2.1
        have b9 : wr.heap.size = Z + 5 := HS.out.2.2.2.2.2
        have o1 := (Only.refl (Z + 3) wr).setCell k (.int .u64 (fF k : Int))
        have o2 := ((Only.refl (Z + 4) (wr.setCell ⟨Z + 3, k, none⟩ (.int .u64 (fF k : Int)))).setCell k (.int .u64 ((fF k &&& wd lC fC k : Nat) : Int))).drew
        have r1 : Row (wr.setCell ⟨Z + 3, k, none⟩ (.int .u64 (fF k : Int))) (Z + 3) 36 ((X.set k (fF k)).map u) := by rw [List.map_set]; exact b2.set k _
        have r2 : Row ((wr.setCell ⟨Z + 3, k, none⟩ (.int .u64 (fF k : Int))).setCell ⟨Z + 4, k, none⟩ (.int .u64 ((fF k &&& wd lC fC k : Nat) : Int))).drew (Z + 4) 36 ((Y.set k (fF k &&& wd lC fC k)).map u) := by rw [List.map_set]; exact b3.set k _
        have r3 := r1.only o2 (show Z + 3 ≠ Z + 4 by omega)
        refine ⟨k + 1, X.set k (fF k), Y.set k (fF k &&& wd lC fC k), by omega, by simp, r3, r2, by simp [b4], by simp [b5], ?_, ?_, ?_, ?_⟩
        · intro j hj
          rw [List.getElem?_set]
          by_cases e : k = j
          · subst e; simp [b4, hlt]
          · simp [e]; exact b6 j (by omega)
        · intro j hj
          rw [List.getElem?_set]
          by_cases e : k = j
          · subst e; simp [b5, hlt]
          · simp [e]; exact b7 j (by omega)
        · exact (b8.trans (o1.below (by omega))).trans (o2.below (by omega))
        · exact o2.size.trans (o1.size.trans b9)
      case measure => simp [intOf]; omega
    · obtain rfl : k = lF := by omega
      have hbz := HQ.out.bz
      have hQ := Q1.below HQ.out b8 (Nat.le_refl _)
      have hWr : Below B w wr := Below.trans HW.out (b8.mono (by omega))
      rw [list_of_all b4 b6] at b2
      rw [list_of_all b5 b7] at b3
      clear b4 b5 b6 b7 b8 HQ HW HY s5 X Y
      go_upto_region 20 with fail
      have hR6 := Row.new wr 34 [.string ⟨#[]⟩, .string ⟨#[]⟩, .int .i64 0, .pointer none, .map none, .slice none 0 0, .int .i64 0, .int .i64 0, .map none, .slice none 0 0, .int .i64 0, .int .i64 0, .bool qR, .slice none 0 0, .slice none 0 0, .slice none 0 0] (Z + 5) b9.symm
      have hB6 := (Below.refl (Z + 5) wr).alloc (by omega) (.cells #[.string ⟨#[]⟩, .string ⟨#[]⟩, .int .i64 0, .pointer none, .map none, .slice none 0 0, .int .i64 0, .int .i64 0, .map none, .slice none 0 0, .int .i64 0, .int .i64 0, .bool qR, .slice none 0 0, .slice none 0 0, .slice none 0 0] 34)
      have hs6 : (wr.alloc (.cells #[.string ⟨#[]⟩, .string ⟨#[]⟩, .int .i64 0, .pointer none, .map none, .slice none 0 0, .int .i64 0, .int .i64 0, .map none, .slice none 0 0, .int .i64 0, .int .i64 0, .bool qR, .slice none 0 0, .slice none 0 0, .slice none 0 0] 34)).heap.size = Z + 6 := by simp [b9]
      generalize hW6 : wr.alloc _ = V6 at hR6 hB6 hs6 ⊢
      clear hW6
      obtain ⟨rc0, hrc0⟩ : ∃ rc : List Value, rc = [.string ⟨#[]⟩, .string ⟨#[]⟩, .int .i64 0, .pointer none, .map none, .slice none 0 0, .int .i64 0, .int .i64 0, .map none, .slice none 0 0, .int .i64 0, .int .i64 0, .bool qR, .slice none 0 0, .slice none 0 0, .slice none 0 0] := ⟨_, rfl⟩
      rw [← hrc0] at hR6
      have ok1 : rc0.length = 16 ∧ rc0[8]? = some (.map none) ∧ rc0[9]? = some (.slice none 0 0) ∧ rc0[10]? = some (.int .i64 0) ∧ rc0[11]? = some (.int .i64 0) ∧ rc0[12]? = some (.bool qR) ∧ rc0[13]? = some (.slice none 0 0) ∧ rc0[14]? = some (.slice none 0 0) ∧ rc0[15]? = some (.slice none 0 0) := by rw [hrc0]; exact ⟨rfl, rfl, rfl, rfl, rfl, rfl, rfl, rfl, rfl⟩
      clear hrc0
      obtain ⟨ql, q8, q9, q10, q11, q12, q13, q14, q15⟩ := ok1
      have rF6 : Reads B V6 aF k fF := (HR.out.1.below hWr).below (hB6.mono (by omega))
      go_cut [132] (fun v wx => ∃ a2 c2 rc, v = .slice a2 k c2 ∧ Row wx (Z + 5) 34 rc ∧ rc.length = 16 ∧ rc[8]? = some (.map none) ∧ rc[9]? = some (.slice a2 k c2) ∧ rc[10]? = some (.int .i64 0) ∧ rc[11]? = some (.int .i64 0) ∧ rc[12]? = some (.bool qR) ∧ rc[13]? = some (.slice none 0 0) ∧ rc[14]? = some (.slice none 0 0) ∧ rc[15]? = some (.slice none 0 0) ∧ c2 ≤ 1024 ∧ Src wx (Z + 6) a2 k fF ∧ Below (Z + 5) V6 wx ∧ Z + 6 ≤ wx.heap.size)
      case first =>
        have c9 := (hR6.cell 9).trans q9
        have f9 := hR6.frozen 9
        have HC : Hid _ := rF6
        have HO : Hid _ := hR6
        clear rF6 hR6 hB6 hQ hWr b2 b3
        cases aF with
        | none =>
          obtain ⟨rfl, rfl⟩ := HN.out.1 rfl
          go_wp2_with (go_at_call 5; refine (clone_nil V6).mono ?_; rintro e W5 ⟨rfl, rfl⟩)
          go_meet
          have ho := (Only.refl (Z + 5) W5).setCell 9 (.slice none 0 0)
          exact ⟨none, 0, _, rfl, Row.set HO.out 9 _, by simp [ql], by simp [q8], by simp [ql], by simp [q10], by simp [q11], by simp [q12], by simp [q13], by simp [q14], by simp [q15], by omega, src_nil _ _ _, ho.below (Nat.le_refl _), by rw [ho.size]; omega⟩
        | some x =>
          go_wp2_with (go_at_call 5; refine (clone_ok B x k cF fF V6 (by omega) HC.out (by omega)).mono ?_; rintro e W5 ⟨rfl, s5, y1, y2⟩; have c9' : W5.cell? ⟨Z + 5, 9, none⟩ = some (.slice none 0 0) := (Below.cell y2 (p := ⟨Z + 5, 9, none⟩) (by show Z + 5 < _; omega)).trans c9; have f9' : W5.frozen? ⟨Z + 5, 9, none⟩ = false := (Row.below HO.out y2 (by omega)).frozen 9; have HY : Hid _ := And.intro y1 y2; clear y1 y2)
          go_meet
          obtain ⟨y1, y2⟩ := HY.out
          rw [hs6] at y1 y2 s5
          have ho := (Only.refl (Z + 5) W5).setCell 9 (dn (Z + 6) k)
          have hr5 := (Row.below HO.out y2 (show Z + 5 < Z + 6 by omega)).set 9 (dn (Z + 6) k)
          exact ⟨_, k, _, rfl, hr5, by simp [ql], by simp [q8], by simp [ql], by simp [q10], by simp [q11], by simp [q12], by simp [q13], by simp [q14], by simp [q15], by omega, src_row ((row_clone y1).only ho (by omega)) (Nat.le_refl _), (y2.mono (by omega)).trans (ho.below (Nat.le_refl _)), by rw [ho.size]; omega⟩
      case rest =>
        obtain ⟨a2, c2, rc, rfl, k1, kl, k8, k9', k10, k11, k12', k13, k14, k15, hc2, sF, kB, kz2⟩ := hcut
        rename_i K hK
        have hQ7 := (hQ.below hB6 (by omega)).below kB (by omega)
        have b27 := (b2.below hB6 (by omega)).below kB (by omega)
        have b37 := (b3.below hB6 (by omega)).below kB (by omega)
        have hW7 : Below B w wc := (hWr.trans (hB6.mono (by omega))).trans (kB.mono (by omega))
        obtain ⟨x1, x2, x3, x4, x5⟩ := HB.out
        exact hK _ _ (tail_ok (qR := qR) (cC := cC) hlF hlC hc2 x1 x2 x3 x4 x5 HR.out.2 (fun e => (HN.out.2 e).1) hQ7 b27 b37 k1 kl k8 k9' k10 k11 k12' k13 k14 k15 sF k4 k5 k9 k12 hW7 kz2)
end Follow
end Go.Proofs.YbulkcrmgDoor
