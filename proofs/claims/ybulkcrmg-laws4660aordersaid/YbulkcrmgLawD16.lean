/-
  LawS4660AOrder: the roles below and above one role, against the seniors.
-/
import Derived.Test.YbulkcrmgLawD15
import Derived.Deep.RegionHeld3
namespace Go.Proofs.Ybulkcrmg
open Go.RowKit
namespace Order
open Kit

noncomputable def inner124 : Code := (Yba.f3.body.bind (stm 124)).getD .skip
set_option linter.unusedSimpArgs false in
set_option maxRecDepth 1000000 in
set_option maxHeartbeats 16000000 in
theorem lawD16 {w0 W1 W : World} {I : Inp} {B : Blk} {n₀ : Nat} {val : Nat → Value} {bR bNum bI bMap N : Nat} {a : Nat} {u5 u6 u7 u8 u9 u10 u13 u14 u15 u17 u19 u21 u22 u23 u24 u28 u29 u30 u31 u34 u35 u36 u37 u38 u39 u40 u41 u42 u43 u44 u45 u47 u48 u49 u52 u53 u54 u55 u56 u57 u58 u59 u60 u61 u62 u63 u64 u65 u66 u67 u68 u69 u70 u71 u72 u73 u74 u75 u76 u77 u78 u79 u80 u81 u82 u83 u84 u85 u86 u87 u88 u89 u90 u91 u92 u93 u94 u95 u96 u97 u98 u99 u100 u101 u102 u103 u104 u105 u106 u107 u108 u109 u110 u111 u112 u113 u114 u115 u116 u117 u118 u119 u120 u121 u122 u123 u124 u125 u126 u127 u128 u129 u130 u131 u132 u133 u134 u135 u136 u137 u138 u139 u140 u141 u142 u143 u144 u145 u146 u147 u148 u149 u150 u151 u152 u153 u154 u155 u156 u157 u158 u159 u160 u161 u162 u163 u164 u165 u166 u167 u168 u169 u170 u171 u172 u173 u174 u175 u176 u177 u178 u179 u180 u181 u182 u183 u184 u185 u186 u187 u188 u189 u190 u191 u192 u193 u194 u195 u196 u197 u198 u199 u200 u201 u202 u203 u204 u205 u206 u207 u208 u209 u210 u211 u212 u213 u214 u215 u216 u217 u218 u219 u220 u221 u222 u223 u224 u225 u226 u227 u228 u229 u230 u231 u232 u233 u234 u235 u236 u237 u238 u239 u240 u241 u242 u243 u244 u245 u246 u247 u248 u249 u250 u251 u252 u253 u254 u255 u256 u257 u258 u259 u260 u261 u262 u263 u264 u265 u266 u267 u268 u269 u270 u271 u272 u273 u274 u275 u276 u277 u278 u279 u280 u281 u282 u283 u284 u285 u286 u287 u288 u289 u290 u291 u292 u293 u294 u295 u296 u297 u298 u299 u300 u301 u302 u303 u304 u305 u306 u307 u308 u309 u310 u311 u312 u313 u314 u315 u316 u317 u318 u319 u320 u321 u322 u323 u324 u325 u326 u327 u328 u329 u330 u331 u332 u333 u334 u335 u336 u337 u338 u339 u340 u341 u342 u343 u344 u345 u346 u347 u348 u349 u350 u351 u352 u353 u354 u355 u356 u357 u358 u359 u360 u361 u362 u363 u364 u365 u366 u367 u368 u369 u370 u371 u372 u373 u374 u375 u376 u377 u378 u379 u380 u381 u382 u383 u384 u385 u386 u387 u388 u389 u390 u391 u392 u393 u394 u395 u396 u397 u398 u399 u400 u401 u402 u403 u404 u405 u406 u407 u408 u409 u410 u411 u412 u413 u414 u415 u416 u417 u418 u419 u420 u421 u422 u423 u424 u425 u426 u427 u428 u429 u430 u431 u432 u433 u434 u435 u436 u437 u438 u439 u440 u441 u442 u443 u444 u445 u446 u447 u448 u449 u450 u451 u452 u453 u454 u455 u456 u457 u458 u459 u460 u461 u462 u463 u464 u465 u466 u467 u468 u469 u470 u471 u472 u473 u474 u475 u476 u477 u478 u479 u480 u481 u482 u483 u484 u485 u486 u487 u488 u489 u490 u491 u492 u493 u494 u495 u496 u497 u498 u499 u500 u501 u502 u503 u504 u505 u506 u507 u508 u509 u510 u511 u512 u513 u514 u515 u516 u517 u518 u519 u520 u521 u522 u523 u524 u525 u526 u527 u528 u529 u530 u531 u532 u533 u534 u535 u536 u537 u538 u539 u540 u541 u542 u543 u544 u545 u546 u547 u548 u549 u550 u551 u552 u553 u554 u555 u556 u557 u558 u559 u560 u561 u562 u563 u564 u565 u566 u567 u568 u569 u570 u571 u572 u573 u574 u575 u576 u577 u578 u579 u580 u581 u582 u583 u584 u585 u586 u587 u588 u589 u590 u591 u592 u593 u594 u595 u596 u597 u598 u599 u600 u601 u602 u603 u604 u605 u606 u607 u608 u609 u610 u611 u612 u613 u614 u615 u616 u617 u618 u619 u620 u621 u622 u623 u624 u625 u626 u627 u628 u629 u630 u631 u632 u633 u634 u635 u636 u637 u638 u639 u640 u641 u642 u643 u644 u645 u646 u647 u648 u649 u650 u651 u652 u653 u654 u655 u656 : Value} {K : Act → World → Prop} {Q : Exit → Act → World → Prop} {V : World} (O : Ok w0 I) (h : Fin w0 W1 W I B n₀ val bR bNum bI bMap N) (ha : a < I.nR) (hV : Below W.heap.size W V)
    (next : ∀ {x10 x53 x54 x55 x531 x532 x533 x534 x535 x536 x537 x538 x539 x540 x541 x542 x543 x544 x545 x546 x547 x548 x549 x550 x551 x552 x553 x554 x555 x556 x557 x558 x559 x560 x561 x562 x563 x564 x565 x566 x567 x568 x569 x570 x571 x572 x573 x574 x575 x576 x577 x578 x579 x580 x581 x582 x583 x584 x585 x586 x587 x588 x589 x590 x591 x592 x593 x594 x595 x596 x597 x598 x599 x600 x601 x602 x603 x604 x605 x606 x607 x608 x609 x610 x611 x612 x613 x614 x615 x616 x617 : Value} {V : World}, Below W.heap.size W V → K ⟨#[.slice I.aR I.nR I.cR, .slice I.aM I.nM I.cM, .slice I.aS I.nS I.cS, oct I.ex, oct I.kd, u5, u6, u7, u8, u9, x10, dn bR I.nR, ptr bNum, u13, u14, u15, num (szI I.rs I.nR), u17, ptr bI, u19, num I.n, u21, u22, u23, u24, num I.e, num I.T, .map (some bMap), u28, u29, u30, u31, num I.k, ptr B.ob, u34, u35, u36, u37, u38, u39, u40, u41, u42, u43, u44, u45, num a, u47, u48, u49, num (I.zS I.nS (I.T + I.nR + a)).length, num (I.zS I.nS (I.T + I.nR + I.nR + a)).length, u52, x53, x54, x55, u56, u57, u58, u59, u60, u61, u62, u63, u64, u65, u66, u67, u68, u69, u70, u71, u72, u73, u74, u75, u76, u77, u78, u79, u80, u81, u82, u83, u84, u85, u86, u87, u88, u89, u90, u91, u92, u93, u94, u95, u96, u97, u98, u99, u100, u101, u102, u103, u104, u105, u106, u107, u108, u109, u110, u111, u112, u113, u114, u115, u116, u117, u118, u119, u120, u121, u122, u123, u124, u125, u126, u127, u128, u129, u130, u131, u132, u133, u134, u135, u136, u137, u138, u139, u140, u141, u142, u143, u144, u145, u146, u147, u148, u149, u150, u151, u152, u153, u154, u155, u156, u157, u158, u159, u160, u161, u162, u163, u164, u165, u166, u167, u168, u169, u170, u171, u172, u173, u174, u175, u176, u177, u178, u179, u180, u181, u182, u183, u184, u185, u186, u187, u188, u189, u190, u191, u192, u193, u194, u195, u196, u197, u198, u199, u200, u201, u202, u203, u204, u205, u206, u207, u208, u209, u210, u211, u212, u213, u214, u215, u216, u217, u218, u219, u220, u221, u222, u223, u224, u225, u226, u227, u228, u229, u230, u231, u232, u233, u234, u235, u236, u237, u238, u239, u240, u241, u242, u243, u244, u245, u246, u247, u248, u249, u250, u251, u252, u253, u254, u255, u256, u257, u258, u259, u260, u261, u262, u263, u264, u265, u266, u267, u268, u269, u270, u271, u272, u273, u274, u275, u276, u277, u278, u279, u280, u281, u282, u283, u284, u285, u286, u287, u288, u289, u290, u291, u292, u293, u294, u295, u296, u297, u298, u299, u300, u301, u302, u303, u304, u305, u306, u307, u308, u309, u310, u311, u312, u313, u314, u315, u316, u317, u318, u319, u320, u321, u322, u323, u324, u325, u326, u327, u328, u329, u330, u331, u332, u333, u334, u335, u336, u337, u338, u339, u340, u341, u342, u343, u344, u345, u346, u347, u348, u349, u350, u351, u352, u353, u354, u355, u356, u357, u358, u359, u360, u361, u362, u363, u364, u365, u366, u367, u368, u369, u370, u371, u372, u373, u374, u375, u376, u377, u378, u379, u380, u381, u382, u383, u384, u385, u386, u387, u388, u389, u390, u391, u392, u393, u394, u395, u396, u397, u398, u399, u400, u401, u402, u403, u404, u405, u406, u407, u408, u409, u410, u411, u412, u413, u414, u415, u416, u417, u418, u419, u420, u421, u422, u423, u424, u425, u426, u427, u428, u429, u430, u431, u432, u433, u434, u435, u436, u437, u438, u439, u440, u441, u442, u443, u444, u445, u446, u447, u448, u449, u450, u451, u452, u453, u454, u455, u456, u457, u458, u459, u460, u461, u462, u463, u464, u465, u466, u467, u468, u469, u470, u471, u472, u473, u474, u475, u476, u477, u478, u479, u480, u481, u482, u483, u484, u485, u486, u487, u488, u489, u490, u491, u492, u493, u494, u495, u496, u497, u498, u499, u500, u501, u502, u503, u504, u505, u506, u507, u508, u509, u510, u511, u512, u513, u514, u515, u516, u517, u518, u519, u520, u521, u522, u523, u524, u525, u526, u527, u528, u529, u530, x531, x532, x533, x534, x535, x536, x537, x538, x539, x540, x541, x542, x543, x544, x545, x546, x547, x548, x549, x550, x551, x552, x553, x554, x555, x556, x557, x558, x559, x560, x561, x562, x563, x564, x565, x566, x567, x568, x569, x570, x571, x572, x573, x574, x575, x576, x577, x578, x579, x580, x581, x582, x583, x584, x585, x586, x587, x588, x589, x590, x591, x592, x593, x594, x595, x596, x597, x598, x599, x600, x601, x602, x603, x604, x605, x606, x607, x608, x609, x610, x611, x612, x613, x614, x615, x616, x617, u618, u619, u620, u621, u622, u623, u624, u625, u626, u627, u628, u629, u630, u631, u632, u633, u634, u635, u636, u637, u638, u639, u640, u641, u642, u643, u644, u645, u646, u647, u648, u649, u650, u651, u652, u653, u654, u655, u656], []⟩ V) :
    Code.wp Yba.prog inner124 (Exit.then K Q) ⟨#[.slice I.aR I.nR I.cR, .slice I.aM I.nM I.cM, .slice I.aS I.nS I.cS, oct I.ex, oct I.kd, u5, u6, u7, u8, u9, u10, dn bR I.nR, ptr bNum, u13, u14, u15, num (szI I.rs I.nR), u17, ptr bI, u19, num I.n, u21, u22, u23, u24, num I.e, num I.T, .map (some bMap), u28, u29, u30, u31, num I.k, ptr B.ob, u34, u35, u36, u37, u38, u39, u40, u41, u42, u43, u44, u45, num a, u47, u48, u49, num 0, num 0, u52, u53, u54, u55, u56, u57, u58, u59, u60, u61, u62, u63, u64, u65, u66, u67, u68, u69, u70, u71, u72, u73, u74, u75, u76, u77, u78, u79, u80, u81, u82, u83, u84, u85, u86, u87, u88, u89, u90, u91, u92, u93, u94, u95, u96, u97, u98, u99, u100, u101, u102, u103, u104, u105, u106, u107, u108, u109, u110, u111, u112, u113, u114, u115, u116, u117, u118, u119, u120, u121, u122, u123, u124, u125, u126, u127, u128, u129, u130, u131, u132, u133, u134, u135, u136, u137, u138, u139, u140, u141, u142, u143, u144, u145, u146, u147, u148, u149, u150, u151, u152, u153, u154, u155, u156, u157, u158, u159, u160, u161, u162, u163, u164, u165, u166, u167, u168, u169, u170, u171, u172, u173, u174, u175, u176, u177, u178, u179, u180, u181, u182, u183, u184, u185, u186, u187, u188, u189, u190, u191, u192, u193, u194, u195, u196, u197, u198, u199, u200, u201, u202, u203, u204, u205, u206, u207, u208, u209, u210, u211, u212, u213, u214, u215, u216, u217, u218, u219, u220, u221, u222, u223, u224, u225, u226, u227, u228, u229, u230, u231, u232, u233, u234, u235, u236, u237, u238, u239, u240, u241, u242, u243, u244, u245, u246, u247, u248, u249, u250, u251, u252, u253, u254, u255, u256, u257, u258, u259, u260, u261, u262, u263, u264, u265, u266, u267, u268, u269, u270, u271, u272, u273, u274, u275, u276, u277, u278, u279, u280, u281, u282, u283, u284, u285, u286, u287, u288, u289, u290, u291, u292, u293, u294, u295, u296, u297, u298, u299, u300, u301, u302, u303, u304, u305, u306, u307, u308, u309, u310, u311, u312, u313, u314, u315, u316, u317, u318, u319, u320, u321, u322, u323, u324, u325, u326, u327, u328, u329, u330, u331, u332, u333, u334, u335, u336, u337, u338, u339, u340, u341, u342, u343, u344, u345, u346, u347, u348, u349, u350, u351, u352, u353, u354, u355, u356, u357, u358, u359, u360, u361, u362, u363, u364, u365, u366, u367, u368, u369, u370, u371, u372, u373, u374, u375, u376, u377, u378, u379, u380, u381, u382, u383, u384, u385, u386, u387, u388, u389, u390, u391, u392, u393, u394, u395, u396, u397, u398, u399, u400, u401, u402, u403, u404, u405, u406, u407, u408, u409, u410, u411, u412, u413, u414, u415, u416, u417, u418, u419, u420, u421, u422, u423, u424, u425, u426, u427, u428, u429, u430, u431, u432, u433, u434, u435, u436, u437, u438, u439, u440, u441, u442, u443, u444, u445, u446, u447, u448, u449, u450, u451, u452, u453, u454, u455, u456, u457, u458, u459, u460, u461, u462, u463, u464, u465, u466, u467, u468, u469, u470, u471, u472, u473, u474, u475, u476, u477, u478, u479, u480, u481, u482, u483, u484, u485, u486, u487, u488, u489, u490, u491, u492, u493, u494, u495, u496, u497, u498, u499, u500, u501, u502, u503, u504, u505, u506, u507, u508, u509, u510, u511, u512, u513, u514, u515, u516, u517, u518, u519, u520, u521, u522, u523, u524, u525, u526, u527, u528, u529, u530, u531, u532, u533, u534, u535, u536, u537, u538, u539, u540, u541, u542, u543, u544, u545, u546, u547, u548, u549, u550, u551, u552, u553, u554, u555, u556, u557, u558, u559, u560, u561, u562, u563, u564, u565, u566, u567, u568, u569, u570, u571, u572, u573, u574, u575, u576, u577, u578, u579, u580, u581, u582, u583, u584, u585, u586, u587, u588, u589, u590, u591, u592, u593, u594, u595, u596, u597, u598, u599, u600, u601, u602, u603, u604, u605, u606, u607, u608, u609, u610, u611, u612, u613, u614, u615, u616, u617, u618, u619, u620, u621, u622, u623, u624, u625, u626, u627, u628, u629, u630, u631, u632, u633, u634, u635, u636, u637, u638, u639, u640, u641, u642, u643, u644, u645, u646, u647, u648, u649, u650, u651, u652, u653, u654, u655, u656], []⟩ V := by
  have hnM := O.hM
  have hnS := O.hS
  have hnR := O.hR
  have HO : Hid _ := O
  have HF : Hid _ := h
  have HN : Hid _ := @next
  clear O h next
  conv => arg 2; whnf
  go_upto_region 125 with fail
  go_loopw [50, 51, 533] (fun v v' v2 wr => ∃ k : Nat, k ≤ I.nS ∧ v2 = num k ∧ v = num (I.zS k (I.T + I.nR + a)).length ∧ v' = num (I.zS k (I.T + I.nR + I.nR + a)).length ∧ Below W.heap.size W wr) (fun _ _ v _ => I.nS - (intOf v).toNat)
  case atStart => exact ⟨0, Nat.zero_le _, rfl, by rw [show I.zS 0 (I.T + I.nR + a) = [] from I.zM_far (by omega)]; rfl, by rw [show I.zS 0 (I.T + I.nR + I.nR + a) = [] from I.zM_far (by omega)]; rfl, hV⟩
  case round =>
    obtain ⟨k, hk, rfl, rfl, rfl, hB⟩ := hrel
    by_cases hlk : k < I.nS
    · obtain ⟨b, off, haM, hlt, hc⟩ := HO.out.rS (by omega)
      have hL := HF.out.low
      have c0 := (hB.cell (Nat.lt_of_lt_of_le hlt hL.size)).trans ((hL.cell hlt).trans (hc k hlk).1)
      have c1 := (hB.cell (Nat.lt_of_lt_of_le hlt hL.size)).trans ((hL.cell hlt).trans (hc k hlk).2.1)
      have c2 := (hB.cell (Nat.lt_of_lt_of_le hlt hL.size)).trans ((hL.cell hlt).trans (hc k hlk).2.2)
      have g1 : (k : Int) < (I.nS : Int) := by omega
      have hx := HO.out.bsa k
      have hy := HO.out.bsb k
      have hw := HO.out.bsk k
      rw [haM]
      clear hc hL HN
      go_upto_region 127 with fail
      have hB2 := hB.alloc hB.size (.cells #[oct (I.sa k), oct (I.sb k), oct (I.sk k)] 46)
      have hrow := Row.new wr 46 [oct (I.sa k), oct (I.sb k), oct (I.sk k)] _ rfl
      have y0 := hrow.cell 0
      have y1 := hrow.cell 1
      have y2 := hrow.cell 2
      simp only [List.getElem?_cons_zero, List.getElem?_cons_succ] at y0 y1 y2
      generalize hbv : wr.heap.size = bv at hrow y0 y1 y2 ⊢
      generalize hVV : World.alloc wr _ = V2 at hB2 hrow y0 y1 y2 ⊢
      clear hVV hbv c0 c1 c2 hB hrow
      have n1 := HF.out.cnum hB2 (I.sAl k)
      have n2 := HF.out.cnum hB2 (I.sBl k)
      have hmA : ((I.sa k : Int)).tmod 10 = (I.sA k : Int) := tm10 _
      have hmB : ((I.sb k : Int)).tmod 10 = (I.sB k : Int) := tm10 _
      have hlb := I.zS_len hnM hnS (I.T + I.nR + a) hk
      have hla := I.zS_len hnM hnS (I.T + I.nR + I.nR + a) hk
      have hAl := I.sAl k
      have hBl := I.sBl k
      by_cases hK : I.sK k = I.k
      · have hsk : I.sK k = I.sk k % 3 := rfl
        have gk : (((I.sk k : Int) % 3) != (I.k : Int)) = false := by simp; omega
        cases hA : I.nf (I.sA k) with
        | none =>
          rw [hA] at n1
          simp only [ofO] at n1
          have hzz := zsS_skip (nf := I.nf) (T := I.T) (nR := I.nR) (kd := I.k) (sA := I.sA) (sB := I.sB) (sK := I.sK) (zs := I.zM I.nM) (k := k) (.inr (.inl hA))
          have hzb : I.zS (k + 1) (I.T + I.nR + a) = I.zS k (I.T + I.nR + a) := congrFun hzz _
          have hza : I.zS (k + 1) (I.T + I.nR + I.nR + a) = I.zS k (I.T + I.nR + I.nR + a) := congrFun hzz _
          clear hzz
          clear HO
          generalize hZ1 : I.zS k (I.T + I.nR + a) = Z1 at *
          generalize hZ2 : I.zS k (I.T + I.nR + I.nR + a) = Z2 at *
          go_wp2
          go_roundw
          case rel => exact ⟨k + 1, by omega, by simp, by rw [hzb] <;> simp, by rw [hza] <;> simp, hB2⟩
          case measure => simp [intOf]; omega
        | some a1 =>
          rw [hA] at n1
          simp only [ofO] at n1
          have a10 : decide ((a1 : Int) < 0) = false := by simp
          have a11 : (0 : Int) ≤ (a1 : Int) := by omega
          cases hBs : I.nf (I.sB k) with
          | none =>
            rw [hBs] at n2
            simp only [ofO] at n2
            have hzz := zsS_skip (nf := I.nf) (T := I.T) (nR := I.nR) (kd := I.k) (sA := I.sA) (sB := I.sB) (sK := I.sK) (zs := I.zM I.nM) (k := k) (.inr (.inr hBs))
            have hzb : I.zS (k + 1) (I.T + I.nR + a) = I.zS k (I.T + I.nR + a) := congrFun hzz _
            have hza : I.zS (k + 1) (I.T + I.nR + I.nR + a) = I.zS k (I.T + I.nR + I.nR + a) := congrFun hzz _
            clear hzz
            clear HO
            generalize hZ1 : I.zS k (I.T + I.nR + a) = Z1 at *
            generalize hZ2 : I.zS k (I.T + I.nR + I.nR + a) = Z2 at *
            go_wp2
            go_roundw
            case rel => exact ⟨k + 1, by omega, by simp, by rw [hzb] <;> simp, by rw [hza] <;> simp, hB2⟩
            case measure => simp [intOf]; omega
          | some b1 =>
            rw [hBs] at n2
            simp only [ofO] at n2
            have b10 : decide ((b1 : Int) < 0) = false := by simp
            have b11 : (0 : Int) ≤ (b1 : Int) := by omega
            have ga : (a : Int) < (I.nR : Int) := by omega
            have hzb := zsS_below (T := I.T) (zs := I.zM I.nM) hK hA hBs ha
            have hza := zsS_above (T := I.T) (zs := I.zM I.nM) (c := a) hK hA hBs (I.nf_lt hA)
            by_cases e1 : a1 = a
            · by_cases e2 : b1 = a
              · rw [if_pos e1] at hzb
                change I.zS (k + 1) (I.T + I.nR + a) = I.zS k (I.T + I.nR + a) ++ [b1] at hzb
                rw [if_pos e2] at hza
                change I.zS (k + 1) (I.T + I.nR + I.nR + a) = I.zS k (I.T + I.nR + I.nR + a) ++ [a1] at hza
                have hpB : I.zS k (I.T + I.nR + a) ++ [b1] <+: I.zS I.nS (I.T + I.nR + a) := by rw [← hzb]; exact zsS_pre _ (by omega)
                obtain ⟨p1B, p2B⟩ := pre_next hpB
                obtain ⟨aaB, capB, t1B, t2B⟩ := HF.out.tab hB2 (I.T + I.nR + a) B.bB a (by omega) (ad_B B I.T I.nR a ha)
                obtain ⟨gB, rfl, t3B⟩ := t2B _ _ p2B
                have oB := HF.out.co hB2 2
                simp only [oCells, List.getElem?_cons_zero, List.getElem?_cons_succ] at oB
                have ggB : ((I.zS k (I.T + I.nR + a)).length : Int) < ((I.zS I.nS (I.T + I.nR + a)).length : Int) := by omega
                clear hpB p2B t2B
                have hlzB := I.zS_len hnM hnS (I.T + I.nR + a) (Nat.le_refl I.nS)
                generalize (I.zS I.nS (I.T + I.nR + a)).length = YB at p1B t1B ggB hlzB
                have hpA : I.zS k (I.T + I.nR + I.nR + a) ++ [a1] <+: I.zS I.nS (I.T + I.nR + I.nR + a) := by rw [← hza]; exact zsS_pre _ (by omega)
                obtain ⟨p1A, p2A⟩ := pre_next hpA
                obtain ⟨aaA, capA, t1A, t2A⟩ := HF.out.tab hB2 (I.T + I.nR + I.nR + a) B.bA a (by omega) (ad_A B I.T I.nR a)
                obtain ⟨gA, rfl, t3A⟩ := t2A _ _ p2A
                have oA := HF.out.co hB2 3
                simp only [oCells, List.getElem?_cons_zero, List.getElem?_cons_succ] at oA
                have ggA : ((I.zS k (I.T + I.nR + I.nR + a)).length : Int) < ((I.zS I.nS (I.T + I.nR + I.nR + a)).length : Int) := by omega
                clear hpA p2A t2A
                have hlzA := I.zS_len hnM hnS (I.T + I.nR + I.nR + a) (Nat.le_refl I.nS)
                generalize (I.zS I.nS (I.T + I.nR + I.nR + a)).length = YA at p1A t1A ggA hlzA
                have e1' := e1.symm
                subst e1'
                have e2' := e2.symm
                subst e2'
                clear HO
                generalize hZ1 : I.zS k (I.T + I.nR + a) = Z1 at *
                generalize hZ2 : I.zS k (I.T + I.nR + I.nR + a) = Z2 at *
                go_wp2
                go_roundw
                case rel => exact ⟨k + 1, by omega, by simp, by rw [hzb] <;> simp, by rw [hza] <;> simp, hB2⟩
                case measure => simp [intOf]; omega
              · rw [if_pos e1] at hzb
                change I.zS (k + 1) (I.T + I.nR + a) = I.zS k (I.T + I.nR + a) ++ [b1] at hzb
                rw [if_neg e2] at hza
                change I.zS (k + 1) (I.T + I.nR + I.nR + a) = I.zS k (I.T + I.nR + I.nR + a) at hza
                have ge2 : ((b1 : Int) == (a : Int)) = false := by simp; omega
                have hpB : I.zS k (I.T + I.nR + a) ++ [b1] <+: I.zS I.nS (I.T + I.nR + a) := by rw [← hzb]; exact zsS_pre _ (by omega)
                obtain ⟨p1B, p2B⟩ := pre_next hpB
                obtain ⟨aaB, capB, t1B, t2B⟩ := HF.out.tab hB2 (I.T + I.nR + a) B.bB a (by omega) (ad_B B I.T I.nR a ha)
                obtain ⟨gB, rfl, t3B⟩ := t2B _ _ p2B
                have oB := HF.out.co hB2 2
                simp only [oCells, List.getElem?_cons_zero, List.getElem?_cons_succ] at oB
                have ggB : ((I.zS k (I.T + I.nR + a)).length : Int) < ((I.zS I.nS (I.T + I.nR + a)).length : Int) := by omega
                clear hpB p2B t2B
                have hlzB := I.zS_len hnM hnS (I.T + I.nR + a) (Nat.le_refl I.nS)
                generalize (I.zS I.nS (I.T + I.nR + a)).length = YB at p1B t1B ggB hlzB
                have e1' := e1.symm
                subst e1'
                clear HO
                generalize hZ1 : I.zS k (I.T + I.nR + a) = Z1 at *
                generalize hZ2 : I.zS k (I.T + I.nR + I.nR + a) = Z2 at *
                go_wp2
                go_roundw
                case rel => exact ⟨k + 1, by omega, by simp, by rw [hzb] <;> simp, by rw [hza] <;> simp, hB2⟩
                case measure => simp [intOf]; omega
            · by_cases e2 : b1 = a
              · rw [if_neg e1] at hzb
                change I.zS (k + 1) (I.T + I.nR + a) = I.zS k (I.T + I.nR + a) at hzb
                have ge1 : ((a1 : Int) == (a : Int)) = false := by simp; omega
                rw [if_pos e2] at hza
                change I.zS (k + 1) (I.T + I.nR + I.nR + a) = I.zS k (I.T + I.nR + I.nR + a) ++ [a1] at hza
                have hpA : I.zS k (I.T + I.nR + I.nR + a) ++ [a1] <+: I.zS I.nS (I.T + I.nR + I.nR + a) := by rw [← hza]; exact zsS_pre _ (by omega)
                obtain ⟨p1A, p2A⟩ := pre_next hpA
                obtain ⟨aaA, capA, t1A, t2A⟩ := HF.out.tab hB2 (I.T + I.nR + I.nR + a) B.bA a (by omega) (ad_A B I.T I.nR a)
                obtain ⟨gA, rfl, t3A⟩ := t2A _ _ p2A
                have oA := HF.out.co hB2 3
                simp only [oCells, List.getElem?_cons_zero, List.getElem?_cons_succ] at oA
                have ggA : ((I.zS k (I.T + I.nR + I.nR + a)).length : Int) < ((I.zS I.nS (I.T + I.nR + I.nR + a)).length : Int) := by omega
                clear hpA p2A t2A
                have hlzA := I.zS_len hnM hnS (I.T + I.nR + I.nR + a) (Nat.le_refl I.nS)
                generalize (I.zS I.nS (I.T + I.nR + I.nR + a)).length = YA at p1A t1A ggA hlzA
                have e2' := e2.symm
                subst e2'
                clear HO
                generalize hZ1 : I.zS k (I.T + I.nR + a) = Z1 at *
                generalize hZ2 : I.zS k (I.T + I.nR + I.nR + a) = Z2 at *
                go_wp2
                go_roundw
                case rel => exact ⟨k + 1, by omega, by simp, by rw [hzb] <;> simp, by rw [hza] <;> simp, hB2⟩
                case measure => simp [intOf]; omega
              · rw [if_neg e1] at hzb
                change I.zS (k + 1) (I.T + I.nR + a) = I.zS k (I.T + I.nR + a) at hzb
                have ge1 : ((a1 : Int) == (a : Int)) = false := by simp; omega
                rw [if_neg e2] at hza
                change I.zS (k + 1) (I.T + I.nR + I.nR + a) = I.zS k (I.T + I.nR + I.nR + a) at hza
                have ge2 : ((b1 : Int) == (a : Int)) = false := by simp; omega
                clear HO
                generalize hZ1 : I.zS k (I.T + I.nR + a) = Z1 at *
                generalize hZ2 : I.zS k (I.T + I.nR + I.nR + a) = Z2 at *
                go_wp2
                go_roundw
                case rel => exact ⟨k + 1, by omega, by simp, by rw [hzb] <;> simp, by rw [hza] <;> simp, hB2⟩
                case measure => simp [intOf]; omega
      · have hsk : I.sK k = I.sk k % 3 := rfl
        have gk : (((I.sk k : Int) % 3) != (I.k : Int)) = true := by simp; omega
        have hzz := zsS_skip (nf := I.nf) (T := I.T) (nR := I.nR) (kd := I.k) (sA := I.sA) (sB := I.sB) (sK := I.sK) (zs := I.zM I.nM) (k := k) (.inl hK)
        have hzb : I.zS (k + 1) (I.T + I.nR + a) = I.zS k (I.T + I.nR + a) := congrFun hzz _
        have hza : I.zS (k + 1) (I.T + I.nR + I.nR + a) = I.zS k (I.T + I.nR + I.nR + a) := congrFun hzz _
        clear hzz
        clear HO
        generalize hZ1 : I.zS k (I.T + I.nR + a) = Z1 at *
        generalize hZ2 : I.zS k (I.T + I.nR + I.nR + a) = Z2 at *
        go_wp2
        go_roundw
        case rel => exact ⟨k + 1, by omega, by simp, by rw [hzb] <;> simp, by rw [hza] <;> simp, hB2⟩
        case measure => simp [intOf]; omega
    · obtain rfl : k = I.nS := by omega
      go_wp2
      exact HN.out hB
end Order
end Go.Proofs.Ybulkcrmg
