/-
  LawS4660AOrder: the whole.
-/
import Derived.Test.YbulkcrmgLawA1
import Derived.Test.YbulkcrmgLawA2
import Derived.Test.YbulkcrmgLawA3
import Derived.Test.YbulkcrmgLawA4a
import Derived.Test.YbulkcrmgLawA4b
import Derived.Test.YbulkcrmgLawA5
import Derived.Test.YbulkcrmgLawA6
import Derived.Test.YbulkcrmgLawA7
import Derived.Test.YbulkcrmgLawA8a
import Derived.Test.YbulkcrmgLawA8b
import Derived.Test.YbulkcrmgLawA9
import Derived.Test.YbulkcrmgLawB1
import Derived.Test.YbulkcrmgLawB2
import Derived.Test.YbulkcrmgLawB3
import Derived.Test.YbulkcrmgLawB4
import Derived.Test.YbulkcrmgLawB5
import Derived.Test.YbulkcrmgLawB6
import Derived.Test.YbulkcrmgLawC
import Derived.Test.YbulkcrmgLawC1
import Derived.Test.YbulkcrmgLawD
import Derived.Test.YbulkcrmgLawE
namespace Go.Proofs.Ybulkcrmg
open Go.RowKit
namespace Order
open Kit

theorem Yba.info9 : (Yba.prog.info? 9).map (fun i => (i.zero, i.size, i.bytes)) = some (some (.string ⟨#[]⟩), 1, 16) := by kernel_rfl
theorem MapIs.of_block {w w' : World} {b : Nat} {f : Nat → Nat → Option Nat} {sz N : Nat} (h : MapIs w b f sz N) (e : w'.heap[b]? = w.heap[b]?) : MapIs w' b f sz N := by
  obtain ⟨n, D, h1, ⟨es, clock, e1, e2⟩, h3⟩ := h
  exact ⟨n, D, h1, ⟨es, clock, e.trans e1, e2⟩, h3⟩
theorem Fin.below {w0 W1 W V : World} {I : Inp} {B : Blk} {n₀ : Nat} {val : Nat → Value} {bR bNum bI bMap N : Nat} (h : Fin w0 W1 W I B n₀ val bR bNum bI bMap N) (hV : Below W.heap.size W V) : Fin w0 W1 V I B n₀ val bR bNum bI bMap N := by
  have hg : W.grownBy V Option.none := ⟨hV.os, hV.tape, hV.output, hV.size, fun k hk _ => hV.block k hk⟩
  have s := h.st
  refine ⟨⟨s.geo, s.row.below hV s.row.lt, s.nums.below hV s.nums.lt, s.tabs.kept hg (fun _ _ => by simp) (fun j _ => by cases (val j).ownBlock <;> simp), s.sev.below hV s.sev.lt, s.low.trans (hV.mono s.low.size)⟩, h.roles.below hV h.roles.lt, h.nums.below hV h.nums.lt, h.inds.below hV h.inds.lt, h.imap.below hV h.imap.lt, h.low.trans (hV.mono h.low.size)⟩

set_option linter.unusedSimpArgs false in
set_option maxRecDepth 1000000 in
set_option maxHeartbeats 16000000 in
theorem checks {w0 W1 W : World} {I : Inp} {B : Blk} {n₀ : Nat} {val : Nat → Value} {bR bNum bI bMap N : Nat} {u5 u6 u7 u8 u9 u10 u13 u14 u15 u17 u19 u21 u22 u23 u24 u28 u29 u30 u31 u34 u35 u36 u37 u38 u39 u40 u41 u42 u43 u44 u45 u46 u47 u48 u49 u50 u51 u52 u53 u54 u55 u56 u57 u58 u59 u60 u61 u62 u63 u64 u65 u66 u67 u68 u69 u70 u71 u72 u73 u74 u75 u76 u77 u78 u79 u80 u81 u82 u83 u84 u85 u86 u87 u88 u89 u90 u91 u92 u93 u94 u95 u96 u97 u98 u99 u100 u101 u102 u103 u104 u105 u106 u107 u108 u109 u110 u111 u112 u113 u114 u115 u116 u117 u118 u119 u120 u121 u122 u123 u124 u125 u126 u127 u128 u129 u130 u131 u132 u133 u134 u135 u136 u137 u138 u139 u140 u141 u142 u143 u144 u145 u146 u147 u148 u149 u150 u151 u152 u153 u154 u155 u156 u157 u158 u159 u160 u161 u162 u163 u164 u165 u166 u167 u168 u169 u170 u171 u172 u173 u174 u175 u176 u177 u178 u179 u180 u181 u182 u183 u184 u185 u186 u187 u188 u189 u190 u191 u192 u193 u194 u195 u196 u197 u198 u199 u200 u201 u202 u203 u204 u205 u206 u207 u208 u209 u210 u211 u212 u213 u214 u215 u216 u217 u218 u219 u220 u221 u222 u223 u224 u225 u226 u227 u228 u229 u230 u231 u232 u233 u234 u235 u236 u237 u238 u239 u240 u241 u242 u243 u244 u245 u246 u247 u248 u249 u250 u251 u252 u253 u254 u255 u256 u257 u258 u259 u260 u261 u262 u263 u264 u265 u266 u267 u268 u269 u270 u271 u272 u273 u274 u275 u276 u277 u278 u279 u280 u281 u282 u283 u284 u285 u286 u287 u288 u289 u290 u291 u292 u293 u294 u295 u296 u297 u298 u299 u300 u301 u302 u303 u304 u305 u306 u307 u308 u309 u310 u311 u312 u313 u314 u315 u316 u317 u318 u319 u320 u321 u322 u323 u324 u325 u326 u327 u328 u329 u330 u331 u332 u333 u334 u335 u336 u337 u338 u339 u340 u341 u342 u343 u344 u345 u346 u347 u348 u349 u350 u351 u352 u353 u354 u355 u356 u357 u358 u359 u360 u361 u362 u363 u364 u365 u366 u367 u368 u369 u370 u371 u372 u373 u374 u375 u376 u377 u378 u379 u380 u381 u382 u383 u384 u385 u386 u387 u388 u389 u390 u391 u392 u393 u394 u395 u396 u397 u398 u399 u400 u401 u402 u403 u404 u405 u406 u407 u408 u409 u410 u411 u412 u413 u414 u415 u416 u417 u418 u419 u420 u421 u422 u423 u424 u425 u426 u427 u428 u429 u430 u431 u432 u433 u434 u435 u436 u437 u438 u439 u440 u441 u442 u443 u444 u445 u446 u447 u448 u449 u450 u451 u452 u453 u454 u455 u456 u457 u458 u459 u460 u461 u462 u463 u464 u465 u466 u467 u468 u469 u470 u471 u472 u473 u474 u475 u476 u477 u478 u479 u480 u481 u482 u483 u484 u485 u486 u487 u488 u489 u490 u491 u492 u493 u494 u495 u496 u497 u498 u499 u500 u501 u502 u503 u504 u505 u506 u507 u508 u509 u510 u511 u512 u513 u514 u515 u516 u517 u518 u519 u520 u521 u522 u523 u524 u525 u526 u527 u528 u529 u530 u531 u532 u533 u534 u535 u536 u537 u538 u539 u540 u541 u542 u543 u544 u545 u546 u547 u548 u549 u550 u551 u552 u553 u554 u555 u556 u557 u558 u559 u560 u561 u562 u563 u564 u565 u566 u567 u568 u569 u570 u571 u572 u573 u574 u575 u576 u577 u578 u579 u580 u581 u582 u583 u584 u585 u586 u587 u588 u589 u590 u591 u592 u593 u594 u595 u596 u597 u598 u599 u600 u601 u602 u603 u604 u605 u606 u607 u608 u609 u610 u611 u612 u613 u614 u615 u616 u617 u618 u619 u620 u621 u622 u623 u624 u625 u626 u627 u628 u629 u630 u631 u632 u633 u634 u635 u636 u637 u638 u639 u640 u641 u642 u643 u644 u645 u646 u647 u648 u649 u650 u651 u652 u653 u654 u655 u656 : Value} (O : Ok w0 I) (h : Fin w0 W1 W I B n₀ val bR bNum bI bMap N) :
    Code.wp Yba.prog law58 (bodyPost Yba.prog Yba.f3 (lawPost w0)) ⟨#[.slice I.aR I.nR I.cR, .slice I.aM I.nM I.cM, .slice I.aS I.nS I.cS, oct I.ex, oct I.kd, u5, u6, u7, u8, u9, u10, dn bR I.nR, ptr bNum, u13, u14, u15, num (szI I.rs I.nR), u17, ptr bI, u19, num I.n, u21, u22, u23, u24, num I.e, num I.T, .map (some bMap), u28, u29, u30, u31, num I.k, ptr B.ob, u34, u35, u36, u37, u38, u39, u40, u41, u42, u43, u44, u45, u46, u47, u48, u49, u50, u51, u52, u53, u54, u55, u56, u57, u58, u59, u60, u61, u62, u63, u64, u65, u66, u67, u68, u69, u70, u71, u72, u73, u74, u75, u76, u77, u78, u79, u80, u81, u82, u83, u84, u85, u86, u87, u88, u89, u90, u91, u92, u93, u94, u95, u96, u97, u98, u99, u100, u101, u102, u103, u104, u105, u106, u107, u108, u109, u110, u111, u112, u113, u114, u115, u116, u117, u118, u119, u120, u121, u122, u123, u124, u125, u126, u127, u128, u129, u130, u131, u132, u133, u134, u135, u136, u137, u138, u139, u140, u141, u142, u143, u144, u145, u146, u147, u148, u149, u150, u151, u152, u153, u154, u155, u156, u157, u158, u159, u160, u161, u162, u163, u164, u165, u166, u167, u168, u169, u170, u171, u172, u173, u174, u175, u176, u177, u178, u179, u180, u181, u182, u183, u184, u185, u186, u187, u188, u189, u190, u191, u192, u193, u194, u195, u196, u197, u198, u199, u200, u201, u202, u203, u204, u205, u206, u207, u208, u209, u210, u211, u212, u213, u214, u215, u216, u217, u218, u219, u220, u221, u222, u223, u224, u225, u226, u227, u228, u229, u230, u231, u232, u233, u234, u235, u236, u237, u238, u239, u240, u241, u242, u243, u244, u245, u246, u247, u248, u249, u250, u251, u252, u253, u254, u255, u256, u257, u258, u259, u260, u261, u262, u263, u264, u265, u266, u267, u268, u269, u270, u271, u272, u273, u274, u275, u276, u277, u278, u279, u280, u281, u282, u283, u284, u285, u286, u287, u288, u289, u290, u291, u292, u293, u294, u295, u296, u297, u298, u299, u300, u301, u302, u303, u304, u305, u306, u307, u308, u309, u310, u311, u312, u313, u314, u315, u316, u317, u318, u319, u320, u321, u322, u323, u324, u325, u326, u327, u328, u329, u330, u331, u332, u333, u334, u335, u336, u337, u338, u339, u340, u341, u342, u343, u344, u345, u346, u347, u348, u349, u350, u351, u352, u353, u354, u355, u356, u357, u358, u359, u360, u361, u362, u363, u364, u365, u366, u367, u368, u369, u370, u371, u372, u373, u374, u375, u376, u377, u378, u379, u380, u381, u382, u383, u384, u385, u386, u387, u388, u389, u390, u391, u392, u393, u394, u395, u396, u397, u398, u399, u400, u401, u402, u403, u404, u405, u406, u407, u408, u409, u410, u411, u412, u413, u414, u415, u416, u417, u418, u419, u420, u421, u422, u423, u424, u425, u426, u427, u428, u429, u430, u431, u432, u433, u434, u435, u436, u437, u438, u439, u440, u441, u442, u443, u444, u445, u446, u447, u448, u449, u450, u451, u452, u453, u454, u455, u456, u457, u458, u459, u460, u461, u462, u463, u464, u465, u466, u467, u468, u469, u470, u471, u472, u473, u474, u475, u476, u477, u478, u479, u480, u481, u482, u483, u484, u485, u486, u487, u488, u489, u490, u491, u492, u493, u494, u495, u496, u497, u498, u499, u500, u501, u502, u503, u504, u505, u506, u507, u508, u509, u510, u511, u512, u513, u514, u515, u516, u517, u518, u519, u520, u521, u522, u523, u524, u525, u526, u527, u528, u529, u530, u531, u532, u533, u534, u535, u536, u537, u538, u539, u540, u541, u542, u543, u544, u545, u546, u547, u548, u549, u550, u551, u552, u553, u554, u555, u556, u557, u558, u559, u560, u561, u562, u563, u564, u565, u566, u567, u568, u569, u570, u571, u572, u573, u574, u575, u576, u577, u578, u579, u580, u581, u582, u583, u584, u585, u586, u587, u588, u589, u590, u591, u592, u593, u594, u595, u596, u597, u598, u599, u600, u601, u602, u603, u604, u605, u606, u607, u608, u609, u610, u611, u612, u613, u614, u615, u616, u617, u618, u619, u620, u621, u622, u623, u624, u625, u626, u627, u628, u629, u630, u631, u632, u633, u634, u635, u636, u637, u638, u639, u640, u641, u642, u643, u644, u645, u646, u647, u648, u649, u650, u651, u652, u653, u654, u655, u656], []⟩ W := by
  refine lawB1 O h (Below.refl _ _) (fun hV => ?_)
  refine lawB2 O h hV (fun hV => ?_)
  refine lawB3 O h hV (fun hV => ?_)
  refine lawB4 O h hV (fun hV => ?_)
  refine lawB5 O h hV (fun hV => ?_)
  refine lawB6 O h hV (fun hV => ?_)
  refine lawC O h hV (fun hV => ?_)
  refine lawC1 O h hV (fun hV => ?_)
  refine lawD O h hV (fun hV => ?_)
  exact lawE O (h.below hV)

set_option linter.unusedSimpArgs false in
set_option maxRecDepth 1000000 in
set_option maxHeartbeats 16000000 in
theorem from5 {w0 U : World} {I : Inp} {u5 u6 u7 u8 u9 u10 u13 u14 u15 u16 u17 u18 u19 u20 u21 u22 u23 u24 u25 u26 u27 u28 u29 u30 u31 u32 u33 u34 u35 u36 u37 u38 u39 u40 u41 u42 u43 u44 u45 u46 u47 u48 u49 u50 u51 u52 u53 u54 u55 u56 u57 u58 u59 u60 u61 u62 u63 u64 u65 u66 u67 u68 u69 u70 u71 u72 u73 u74 u75 u76 u77 u78 u79 u80 u81 u82 u83 u84 u85 u86 u87 u88 u89 u90 u91 u92 u93 u94 u95 u96 u97 u98 u99 u100 u101 u102 u103 u104 u105 u106 u107 u108 u109 u110 u111 u112 u113 u114 u115 u116 u117 u118 u119 u120 u121 u122 u123 u124 u125 u126 u127 u128 u129 u130 u131 u132 u133 u134 u135 u136 u137 u138 u139 u140 u141 u142 u143 u144 u145 u146 u147 u148 u149 u150 u151 u152 u153 u154 u155 u156 u157 u158 u159 u160 u161 u162 u163 u164 u165 u166 u167 u168 u169 u170 u171 u172 u173 u174 u175 u176 u177 u178 u179 u180 u181 u182 u183 u184 u185 u186 u187 u188 u189 u190 u191 u192 u193 u194 u195 u196 u197 u198 u199 u200 u201 u202 u203 u204 u205 u206 u207 u208 u209 u210 u211 u212 u213 u214 u215 u216 u217 u218 u219 u220 u221 u222 u223 u224 u225 u226 u227 u228 u229 u230 u231 u232 u233 u234 u235 u236 u237 u238 u239 u240 u241 u242 u243 u244 u245 u246 u247 u248 u249 u250 u251 u252 u253 u254 u255 u256 u257 u258 u259 u260 u261 u262 u263 u264 u265 u266 u267 u268 u269 u270 u271 u272 u273 u274 u275 u276 u277 u278 u279 u280 u281 u282 u283 u284 u285 u286 u287 u288 u289 u290 u291 u292 u293 u294 u295 u296 u297 u298 u299 u300 u301 u302 u303 u304 u305 u306 u307 u308 u309 u310 u311 u312 u313 u314 u315 u316 u317 u318 u319 u320 u321 u322 u323 u324 u325 u326 u327 u328 u329 u330 u331 u332 u333 u334 u335 u336 u337 u338 u339 u340 u341 u342 u343 u344 u345 u346 u347 u348 u349 u350 u351 u352 u353 u354 u355 u356 u357 u358 u359 u360 u361 u362 u363 u364 u365 u366 u367 u368 u369 u370 u371 u372 u373 u374 u375 u376 u377 u378 u379 u380 u381 u382 u383 u384 u385 u386 u387 u388 u389 u390 u391 u392 u393 u394 u395 u396 u397 u398 u399 u400 u401 u402 u403 u404 u405 u406 u407 u408 u409 u410 u411 u412 u413 u414 u415 u416 u417 u418 u419 u420 u421 u422 u423 u424 u425 u426 u427 u428 u429 u430 u431 u432 u433 u434 u435 u436 u437 u438 u439 u440 u441 u442 u443 u444 u445 u446 u447 u448 u449 u450 u451 u452 u453 u454 u455 u456 u457 u458 u459 u460 u461 u462 u463 u464 u465 u466 u467 u468 u469 u470 u471 u472 u473 u474 u475 u476 u477 u478 u479 u480 u481 u482 u483 u484 u485 u486 u487 u488 u489 u490 u491 u492 u493 u494 u495 u496 u497 u498 u499 u500 u501 u502 u503 u504 u505 u506 u507 u508 u509 u510 u511 u512 u513 u514 u515 u516 u517 u518 u519 u520 u521 u522 u523 u524 u525 u526 u527 u528 u529 u530 u531 u532 u533 u534 u535 u536 u537 u538 u539 u540 u541 u542 u543 u544 u545 u546 u547 u548 u549 u550 u551 u552 u553 u554 u555 u556 u557 u558 u559 u560 u561 u562 u563 u564 u565 u566 u567 u568 u569 u570 u571 u572 u573 u574 u575 u576 u577 u578 u579 u580 u581 u582 u583 u584 u585 u586 u587 u588 u589 u590 u591 u592 u593 u594 u595 u596 u597 u598 u599 u600 u601 u602 u603 u604 u605 u606 u607 u608 u609 u610 u611 u612 u613 u614 u615 u616 u617 u618 u619 u620 u621 u622 u623 u624 u625 u626 u627 u628 u629 u630 u631 u632 u633 u634 u635 u636 u637 u638 u639 u640 u641 u642 u643 u644 u645 u646 u647 u648 u649 u650 u651 u652 u653 u654 u655 u656 : Value} (O : Ok w0 I) (hr : Row U w0.heap.size 9 ((List.range I.nR).map (fun _ => .string ⟨#[]⟩))) (hz : Row U (w0.heap.size + 1) 26 ((List.range 10).map (fun _ => .int .i64 0))) (hL : Below w0.heap.size w0 U) :
    Code.wp Yba.prog law5 (bodyPost Yba.prog Yba.f3 (lawPost w0)) ⟨#[.slice I.aR I.nR I.cR, .slice I.aM I.nM I.cM, .slice I.aS I.nS I.cS, oct I.ex, oct I.kd, u5, u6, u7, u8, u9, u10, dn w0.heap.size I.nR, ptr (w0.heap.size + 1), u13, u14, u15, u16, u17, u18, u19, u20, u21, u22, u23, u24, u25, u26, u27, u28, u29, u30, u31, u32, u33, u34, u35, u36, u37, u38, u39, u40, u41, u42, u43, u44, u45, u46, u47, u48, u49, u50, u51, u52, u53, u54, u55, u56, u57, u58, u59, u60, u61, u62, u63, u64, u65, u66, u67, u68, u69, u70, u71, u72, u73, u74, u75, u76, u77, u78, u79, u80, u81, u82, u83, u84, u85, u86, u87, u88, u89, u90, u91, u92, u93, u94, u95, u96, u97, u98, u99, u100, u101, u102, u103, u104, u105, u106, u107, u108, u109, u110, u111, u112, u113, u114, u115, u116, u117, u118, u119, u120, u121, u122, u123, u124, u125, u126, u127, u128, u129, u130, u131, u132, u133, u134, u135, u136, u137, u138, u139, u140, u141, u142, u143, u144, u145, u146, u147, u148, u149, u150, u151, u152, u153, u154, u155, u156, u157, u158, u159, u160, u161, u162, u163, u164, u165, u166, u167, u168, u169, u170, u171, u172, u173, u174, u175, u176, u177, u178, u179, u180, u181, u182, u183, u184, u185, u186, u187, u188, u189, u190, u191, u192, u193, u194, u195, u196, u197, u198, u199, u200, u201, u202, u203, u204, u205, u206, u207, u208, u209, u210, u211, u212, u213, u214, u215, u216, u217, u218, u219, u220, u221, u222, u223, u224, u225, u226, u227, u228, u229, u230, u231, u232, u233, u234, u235, u236, u237, u238, u239, u240, u241, u242, u243, u244, u245, u246, u247, u248, u249, u250, u251, u252, u253, u254, u255, u256, u257, u258, u259, u260, u261, u262, u263, u264, u265, u266, u267, u268, u269, u270, u271, u272, u273, u274, u275, u276, u277, u278, u279, u280, u281, u282, u283, u284, u285, u286, u287, u288, u289, u290, u291, u292, u293, u294, u295, u296, u297, u298, u299, u300, u301, u302, u303, u304, u305, u306, u307, u308, u309, u310, u311, u312, u313, u314, u315, u316, u317, u318, u319, u320, u321, u322, u323, u324, u325, u326, u327, u328, u329, u330, u331, u332, u333, u334, u335, u336, u337, u338, u339, u340, u341, u342, u343, u344, u345, u346, u347, u348, u349, u350, u351, u352, u353, u354, u355, u356, u357, u358, u359, u360, u361, u362, u363, u364, u365, u366, u367, u368, u369, u370, u371, u372, u373, u374, u375, u376, u377, u378, u379, u380, u381, u382, u383, u384, u385, u386, u387, u388, u389, u390, u391, u392, u393, u394, u395, u396, u397, u398, u399, u400, u401, u402, u403, u404, u405, u406, u407, u408, u409, u410, u411, u412, u413, u414, u415, u416, u417, u418, u419, u420, u421, u422, u423, u424, u425, u426, u427, u428, u429, u430, u431, u432, u433, u434, u435, u436, u437, u438, u439, u440, u441, u442, u443, u444, u445, u446, u447, u448, u449, u450, u451, u452, u453, u454, u455, u456, u457, u458, u459, u460, u461, u462, u463, u464, u465, u466, u467, u468, u469, u470, u471, u472, u473, u474, u475, u476, u477, u478, u479, u480, u481, u482, u483, u484, u485, u486, u487, u488, u489, u490, u491, u492, u493, u494, u495, u496, u497, u498, u499, u500, u501, u502, u503, u504, u505, u506, u507, u508, u509, u510, u511, u512, u513, u514, u515, u516, u517, u518, u519, u520, u521, u522, u523, u524, u525, u526, u527, u528, u529, u530, u531, u532, u533, u534, u535, u536, u537, u538, u539, u540, u541, u542, u543, u544, u545, u546, u547, u548, u549, u550, u551, u552, u553, u554, u555, u556, u557, u558, u559, u560, u561, u562, u563, u564, u565, u566, u567, u568, u569, u570, u571, u572, u573, u574, u575, u576, u577, u578, u579, u580, u581, u582, u583, u584, u585, u586, u587, u588, u589, u590, u591, u592, u593, u594, u595, u596, u597, u598, u599, u600, u601, u602, u603, u604, u605, u606, u607, u608, u609, u610, u611, u612, u613, u614, u615, u616, u617, u618, u619, u620, u621, u622, u623, u624, u625, u626, u627, u628, u629, u630, u631, u632, u633, u634, u635, u636, u637, u638, u639, u640, u641, u642, u643, u644, u645, u646, u647, u648, u649, u650, u651, u652, u653, u654, u655, u656], []⟩ U := by
  refine lawA1 O hz (fun hn ho => ?_)
  rename_i V1
  have hL1 : Below w0.heap.size w0 V1 := hL.trans (ho.below (by omega))
  have hr1 := hr.only ho (show w0.heap.size ≠ w0.heap.size + 1 by omega)
  refine lawA2 O hr1 hn (by omega) (by omega) hr1.lt (Nat.le_refl _) hL1 (fun hroles hnums hB2 => ?_)
  rename_i V2
  have hL2 : Below w0.heap.size w0 V2 := hL1.trans hB2
  refine lawA3 O hnums ?_
  refine lawA4a O (fun hI0 hB3 hbI => ?_)
  rename_i V3 bI
  have hroles3 := hroles.below hB3 (by rw [← hbI]; exact hroles.lt)
  have hnums3 := hnums.below hB3 (by rw [← hbI]; exact hnums.lt)
  have hS0 : w0.heap.size ≤ bI := by rw [← hbI]; exact hL2.size
  have hL3 := hL2.trans (hB3.mono hS0)
  have d1 : w0.heap.size < bI := by rw [← hbI]; exact hroles.lt
  have d2 : w0.heap.size + 1 < bI := by rw [← hbI]; exact hnums.lt
  refine lawA4b O (fun hRul hrc hrl hM hmlen hB4 hbR hbM => ?_)
  rename_i V4 bRul bM rc mc
  have d3 : bI < bRul := by rw [← hbR]; exact hI0.lt
  have hI4 := hI0.below hB4 d3
  have hroles4 := hroles3.below hB4 (by omega)
  have hnums4 := hnums3.below hB4 (by omega)
  have hL4 := hL3.trans (hB4.mono (by omega))
  refine lawA5 O hI4 hRul hrc hM hmlen hS0 d3 (by omega) hM.lt hL4 (fun hI5 hM5 hmlen5 hmc hRul5 hB5 => ?_)
  rename_i V5 mc5
  have hroles5 := hroles4.below hB5 d1
  have hnums5 := hnums4.below hB5 d2
  have hL5 := hL4.trans (hB5.mono hS0)
  refine lawA6 O hI5 hI5.lt (fun hMap6 hB6 hbMap => ?_)
  rename_i V6 bMap
  refine lawA7 O hMap6 (fun hMap hB7 => ?_)
  rename_i V7
  have d4 : bM < bMap := by rw [← hbMap]; exact hM5.lt
  have hB57 : Below bMap V5 V7 := hB6.trans hB7
  have hI7 := hI5.below hB57 (by omega)
  have hM7 := hM5.below hB57 d4
  have hRul7 := hRul5.below hB57 (by omega)
  have hroles7 := hroles5.below hB57 (by omega)
  have hnums7 := hnums5.below hB57 (by omega)
  have hL7 := hL5.trans (hB57.mono (by omega))
  refine lawA8a O hRul7 hrl (fun hRul8 hS8 hslen8 hkeep hB8 hbSe => ?_)
  rename_i V8 bSe sc
  have d5 : bMap < bSe := by rw [← hbSe]; exact hMap.lt
  have hI8 := hI7.of_block (hkeep bI (by omega) (by omega))
  have hM8 := hM7.of_block (hkeep bM (by omega) (by omega))
  have hroles8 := hroles7.of_block (hkeep _ (by omega) (by omega))
  have hnums8 := hnums7.of_block (hkeep _ (by omega) (by omega))
  have hMap8 := hMap.of_block (hkeep bMap (by omega) (by omega))
  have hL8 := hL7.trans (hB8.mono (by omega))
  have hrc4 : (rc.set 4 (dn bSe I.nS))[4]? = some (dn bSe I.nS) := by rw [List.getElem?_set_self (by omega)]
  have hrc3 : (rc.set 4 (dn bSe I.nS))[3]? = some (dn bM I.nM) := by rw [List.getElem?_set_ne (by omega)]; exact hrc
  refine lawA8b O hRul8 hrc4 hS8 hslen8 (by omega) hS8.lt (by omega) hL8 (fun hS9 hslen9 hsc hB9 => ?_)
  rename_i V9 sc9
  have hM9 := hM8.below hB9 (by omega)
  have G : Given V9 bRul bMap I.nR I.T (8 + I.e) I.nM I.nS bM bSe I.mI I.mR I.sA I.sB I.sK I.fI (rc.set 4 (dn bSe I.nS)) :=
    { hnR := O.hR, hT := I.T_le, hnM := O.hM, hnS := O.hS, ind := hMap8.below hB9 (by omega), rul := hRul8.below hB9 (by omega), rc3 := hrc3, rc4 := hrc4, ltM := hM9.lt, ltS := hS9.lt,
      m0 := fun k hk => (hM9.cell _).trans (hmc k hk).1, m1 := fun k hk => (hM9.cell _).trans (hmc k hk).2, s0 := fun k hk => (hS9.cell _).trans (hsc k hk).1, s1 := fun k hk => (hS9.cell _).trans (hsc k hk).2.1, s2 := fun k hk => (hS9.cell _).trans (hsc k hk).2.2,
      lI := fun k => Nat.lt_trans (I.mIl k) (by omega), lR := I.mRl, lA := I.sAl, lB := I.sBl, lK := I.sKl, inT := fun k hk => I.inT hk }
  exact lawA9 O G (hroles8.below hB9 (by omega)) (hnums8.below hB9 (by omega)) (hI8.below hB9 (by omega)) (hL8.trans (hB9.mono (by omega))) (fun hF => checks O hF)

set_option maxRecDepth 1000000 in
set_option maxHeartbeats 16000000 in
theorem law_ok (w0 : World) (I : Inp) (O : Ok w0 I) : Calls Yba.prog 3 #[.slice I.aR I.nR I.cR, .slice I.aM I.nM I.cM, .slice I.aS I.nS I.cS, oct I.ex, oct I.kd] w0 (lawPost w0) := by
  have hnM := O.hM
  have hnR := O.hR
  have hnS := O.hS
  have d0 : decide ((1024 : Int) < (I.nR : Int)) = false := by simp; omega
  have d1 : decide ((1024 : Int) < (I.nM : Int)) = false := by simp; omega
  have d2 : decide ((1024 : Int) < (I.nS : Int)) = false := by simp; omega
  obtain ⟨i0, hi, hz0, hz1, hz2⟩ := info_parts Yba.info9
  have HO : Hid _ := O
  clear O
  go_enter Yba.func3, Yba.ntmps3
  go_upto_region 3 with fail
  rename_i K hK
  have HK : Hid _ := hK
  clear hK
  go_wp2_with (at_make; refine wpList_make_new _ rfl _ _ _ rfl 9 i0 _ 1 Yba.underlying25 hi hz0 hz1 .i64 .i64 _ _ I.nR I.nR rfl rfl rfl rfl (Nat.le_refl _) (by rw [hz2]; omega) (by unfold maxLen; omega) ?_; intro w1 hs1 hrow1 hb1)
  refine HK.out _ _ (wp_seq_k (fun K2 hK2 => ?_))
  have HK2 : Hid _ := hK2
  clear hK2 HK
  have e1 : (madeCells (Value.string ⟨#[]⟩).cells (I.nR * 1)).toList = (List.range I.nR).map (fun _ => Value.string ⟨#[]⟩) := by
    rw [Nat.mul_one]
    have h := toList_madeCells_one (.string ⟨#[]⟩) I.nR
    simp only [Value.cells] at h ⊢
    rw [h]
    apply List.ext_getElem?
    intro j
    by_cases hj : j < I.nR
    · simp [hj]
    · simp [hj]
  rw [e1] at hrow1
  have hL1 : Below w0.heap.size w0 w1 := hb1
  have r1 := hrow1.alloc (.cells #[.int .i64 0, .int .i64 0, .int .i64 0, .int .i64 0, .int .i64 0, .int .i64 0, .int .i64 0, .int .i64 0, .int .i64 0, .int .i64 0] 26)
  have r2 : Row (w1.alloc (.cells #[.int .i64 0, .int .i64 0, .int .i64 0, .int .i64 0, .int .i64 0, .int .i64 0, .int .i64 0, .int .i64 0, .int .i64 0, .int .i64 0] 26)) (w0.heap.size + 1) 26 ((List.range 10).map (fun _ => .int .i64 0)) := Row.new w1 26 _ _ hs1.symm
  have hL2 := hL1.alloc (by omega) (.cells #[.int .i64 0, .int .i64 0, .int .i64 0, .int .i64 0, .int .i64 0, .int .i64 0, .int .i64 0, .int .i64 0, .int .i64 0, .int .i64 0] 26)
  go_wp2
  try rw [hs1]
  exact HK2.out _ _ (from5 HO.out r1 r2 hL2)
end Order
end Go.Proofs.Ybulkcrmg
