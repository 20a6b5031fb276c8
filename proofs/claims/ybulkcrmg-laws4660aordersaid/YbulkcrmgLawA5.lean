/-
  LawS4660AOrder: what the law makes, part A5.
-/
import Derived.Test.YbulkcrmgCuts
import Derived.Deep.RegionHeld3
namespace Go.Proofs.Ybulkcrmg
open Go.RowKit
namespace Order
open Kit

theorem nI_step (mI : Nat → Nat) (k : Nat) : nI mI (k + 1) = if ((nI mI k).1 (mI k)).isSome then nI mI k else (updO (nI mI k).1 (mI k) (nI mI k).2, (nI mI k).2 + 1) := by
  rw [nI]
set_option linter.unusedSimpArgs false in
set_option maxRecDepth 1000000 in
set_option maxHeartbeats 16000000 in
theorem lawA5 {w0 : World} {I : Inp} {bR bNum bI bRul bM : Nat} {V : World} {rc mc : List Value} {Q : Exit → Act → World → Prop} {u5 u6 u7 u8 u9 u10 u13 u14 u15 u17 u19 u22 u23 u24 u25 u26 u27 u28 u29 u30 u31 u32 u33 u34 u35 u36 u37 u38 u39 u40 u41 u42 u43 u44 u45 u46 u47 u48 u49 u50 u51 u52 u53 u54 u55 u56 u57 u58 u59 u60 u61 u62 u63 u64 u65 u66 u67 u68 u69 u70 u71 u72 u73 u74 u75 u76 u77 u78 u79 u80 u81 u82 u83 u84 u85 u86 u87 u88 u89 u90 u91 u92 u93 u94 u95 u96 u97 u98 u99 u100 u101 u102 u103 u104 u105 u106 u107 u108 u109 u110 u111 u112 u113 u114 u115 u116 u117 u118 u119 u120 u121 u122 u123 u124 u125 u126 u127 u128 u129 u130 u131 u132 u133 u134 u135 u136 u137 u138 u139 u140 u141 u142 u143 u144 u145 u146 u147 u148 u149 u150 u151 u152 u153 u154 u155 u156 u157 u158 u159 u160 u161 u162 u163 u164 u165 u166 u167 u168 u169 u170 u171 u172 u173 u174 u175 u176 u177 u178 u179 u180 u181 u182 u183 u184 u185 u186 u187 u188 u189 u190 u191 u192 u193 u194 u195 u196 u197 u198 u199 u200 u201 u202 u203 u204 u205 u206 u207 u208 u209 u210 u211 u212 u213 u214 u215 u216 u217 u218 u219 u220 u221 u222 u223 u224 u225 u226 u227 u228 u229 u230 u231 u232 u233 u234 u235 u236 u237 u238 u239 u240 u241 u242 u243 u244 u245 u246 u247 u248 u249 u250 u251 u252 u253 u254 u255 u256 u257 u258 u259 u260 u261 u262 u263 u264 u265 u266 u267 u268 u269 u270 u271 u272 u273 u274 u275 u276 u277 u278 u279 u280 u281 u282 u283 u284 u285 u286 u287 u288 u289 u290 u291 u292 u293 u294 u295 u296 u297 u298 u299 u300 u301 u302 u303 u304 u305 u306 u307 u308 u309 u310 u311 u312 u313 u314 u315 u316 u317 u318 u319 u320 u321 u322 u323 u324 u325 u326 u327 u328 u329 u330 u331 u332 u333 u334 u335 u336 u337 u338 u339 u340 u341 u342 u343 u344 u345 u346 u347 u348 u349 u350 u351 u352 u353 u354 u355 u356 u357 u358 u359 u360 u361 u362 u363 u364 u365 u366 u367 u368 u369 u370 u371 u372 u373 u374 u375 u376 u377 u378 u379 u380 u381 u382 u383 u384 u385 u386 u387 u388 u389 u390 u391 u392 u393 u394 u395 u396 u397 u398 u399 u400 u401 u402 u403 u404 u405 u406 u407 u408 u409 u410 u411 u412 u413 u414 u415 u416 u417 u418 u419 u420 u421 u422 u423 u424 u425 u426 u427 u428 u429 u430 u431 u432 u433 u434 u435 u436 u437 u438 u439 u440 u441 u442 u443 u444 u445 u446 u447 u448 u449 u450 u451 u452 u453 u454 u455 u456 u457 u458 u459 u460 u461 u462 u463 u464 u465 u466 u467 u468 u469 u470 u471 u472 u473 u474 u475 u476 u477 u478 u479 u480 u481 u482 u483 u484 u485 u486 u487 u488 u489 u490 u491 u492 u493 u494 u495 u496 u497 u498 u499 u500 u501 u502 u503 u504 u505 u506 u507 u508 u509 u510 u511 u512 u513 u514 u515 u516 u517 u518 u519 u520 u521 u522 u523 u524 u525 u526 u527 u528 u529 u530 u531 u532 u533 u534 u535 u536 u537 u538 u539 u540 u541 u542 u543 u544 u545 u546 u547 u548 u549 u550 u551 u552 u553 u554 u555 u556 u557 u558 u559 u560 u561 u562 u563 u564 u565 u566 u567 u568 u569 u570 u571 u572 u573 u574 u575 u576 u577 u578 u579 u580 u581 u582 u583 u584 u585 u586 u587 u588 u589 u590 u591 u592 u593 u594 u595 u596 u597 u598 u599 u600 u601 u602 u603 u604 u605 u606 u607 u608 u609 u610 u611 u612 u613 u614 u615 u616 u617 u618 u619 u620 u621 u622 u623 u624 u625 u626 u627 u628 u629 u630 u631 u632 u633 u634 u635 u636 u637 u638 u639 u640 u641 u642 u643 u644 u645 u646 u647 u648 u649 u650 u651 u652 u653 u654 u655 u656 : Value} (O : Ok w0 I) (hI : Row V bI 28 ((List.range 8).map (fun j => .int .i64 (ofO ((nI I.mI 0).1 j))))) (hR : Row V bRul 39 rc) (hrc : rc[3]? = some (dn bM I.nM)) (hM : Row V bM 43 mc) (hlen : mc.length = I.nM * 2) (lo : w0.heap.size ≤ bI) (b1 : bI < bRul) (b2 : bRul < bM) (b3 : bM < V.heap.size) (hL : Below w0.heap.size w0 V)
    (next : ∀ {u5 u6 u7 u8 u9 u10 u13 u14 u15 u17 u19 u22 u23 u24 u25 u26 u27 u28 u29 u30 u31 u32 u33 u34 u35 u36 u37 u38 u39 u40 u41 u42 u43 u44 u45 u46 u47 u48 u49 u50 u51 u52 u53 u54 u55 u56 u57 u58 u59 u60 u61 u62 u63 u64 u65 u66 u67 u68 u69 u70 u71 u72 u73 u74 u75 u76 u77 u78 u79 u80 u81 u82 u83 u84 u85 u86 u87 u88 u89 u90 u91 u92 u93 u94 u95 u96 u97 u98 u99 u100 u101 u102 u103 u104 u105 u106 u107 u108 u109 u110 u111 u112 u113 u114 u115 u116 u117 u118 u119 u120 u121 u122 u123 u124 u125 u126 u127 u128 u129 u130 u131 u132 u133 u134 u135 u136 u137 u138 u139 u140 u141 u142 u143 u144 u145 u146 u147 u148 u149 u150 u151 u152 u153 u154 u155 u156 u157 u158 u159 u160 u161 u162 u163 u164 u165 u166 u167 u168 u169 u170 u171 u172 u173 u174 u175 u176 u177 u178 u179 u180 u181 u182 u183 u184 u185 u186 u187 u188 u189 u190 u191 u192 u193 u194 u195 u196 u197 u198 u199 u200 u201 u202 u203 u204 u205 u206 u207 u208 u209 u210 u211 u212 u213 u214 u215 u216 u217 u218 u219 u220 u221 u222 u223 u224 u225 u226 u227 u228 u229 u230 u231 u232 u233 u234 u235 u236 u237 u238 u239 u240 u241 u242 u243 u244 u245 u246 u247 u248 u249 u250 u251 u252 u253 u254 u255 u256 u257 u258 u259 u260 u261 u262 u263 u264 u265 u266 u267 u268 u269 u270 u271 u272 u273 u274 u275 u276 u277 u278 u279 u280 u281 u282 u283 u284 u285 u286 u287 u288 u289 u290 u291 u292 u293 u294 u295 u296 u297 u298 u299 u300 u301 u302 u303 u304 u305 u306 u307 u308 u309 u310 u311 u312 u313 u314 u315 u316 u317 u318 u319 u320 u321 u322 u323 u324 u325 u326 u327 u328 u329 u330 u331 u332 u333 u334 u335 u336 u337 u338 u339 u340 u341 u342 u343 u344 u345 u346 u347 u348 u349 u350 u351 u352 u353 u354 u355 u356 u357 u358 u359 u360 u361 u362 u363 u364 u365 u366 u367 u368 u369 u370 u371 u372 u373 u374 u375 u376 u377 u378 u379 u380 u381 u382 u383 u384 u385 u386 u387 u388 u389 u390 u391 u392 u393 u394 u395 u396 u397 u398 u399 u400 u401 u402 u403 u404 u405 u406 u407 u408 u409 u410 u411 u412 u413 u414 u415 u416 u417 u418 u419 u420 u421 u422 u423 u424 u425 u426 u427 u428 u429 u430 u431 u432 u433 u434 u435 u436 u437 u438 u439 u440 u441 u442 u443 u444 u445 u446 u447 u448 u449 u450 u451 u452 u453 u454 u455 u456 u457 u458 u459 u460 u461 u462 u463 u464 u465 u466 u467 u468 u469 u470 u471 u472 u473 u474 u475 u476 u477 u478 u479 u480 u481 u482 u483 u484 u485 u486 u487 u488 u489 u490 u491 u492 u493 u494 u495 u496 u497 u498 u499 u500 u501 u502 u503 u504 u505 u506 u507 u508 u509 u510 u511 u512 u513 u514 u515 u516 u517 u518 u519 u520 u521 u522 u523 u524 u525 u526 u527 u528 u529 u530 u531 u532 u533 u534 u535 u536 u537 u538 u539 u540 u541 u542 u543 u544 u545 u546 u547 u548 u549 u550 u551 u552 u553 u554 u555 u556 u557 u558 u559 u560 u561 u562 u563 u564 u565 u566 u567 u568 u569 u570 u571 u572 u573 u574 u575 u576 u577 u578 u579 u580 u581 u582 u583 u584 u585 u586 u587 u588 u589 u590 u591 u592 u593 u594 u595 u596 u597 u598 u599 u600 u601 u602 u603 u604 u605 u606 u607 u608 u609 u610 u611 u612 u613 u614 u615 u616 u617 u618 u619 u620 u621 u622 u623 u624 u625 u626 u627 u628 u629 u630 u631 u632 u633 u634 u635 u636 u637 u638 u639 u640 u641 u642 u643 u644 u645 u646 u647 u648 u649 u650 u651 u652 u653 u654 u655 u656 : Value} {V1 : World} {mc : List Value}, Row V1 bI 28 ((List.range 8).map (fun j => .int .i64 (ofO ((nI I.mI I.nM).1 j)))) → Row V1 bM 43 mc → mc.length = I.nM * 2 → (∀ i, i < I.nM → mc[i * 2]? = some (.string (nm 105 (I.mI i))) ∧ mc[i * 2 + 1]? = some (str (I.mR i))) → Row V1 bRul 39 rc → Below bI V V1 → Code.wp Yba.prog law38 Q ⟨#[.slice I.aR I.nR I.cR, .slice I.aM I.nM I.cM, .slice I.aS I.nS I.cS, oct I.ex, oct I.kd, u5, u6, u7, u8, u9, u10, dn bR I.nR, ptr bNum, u13, u14, u15, num (szI I.rs I.nR), u17, ptr bI, u19, num I.n, ptr bRul, u22, u23, u24, u25, u26, u27, u28, u29, u30, u31, u32, u33, u34, u35, u36, u37, u38, u39, u40, u41, u42, u43, u44, u45, u46, u47, u48, u49, u50, u51, u52, u53, u54, u55, u56, u57, u58, u59, u60, u61, u62, u63, u64, u65, u66, u67, u68, u69, u70, u71, u72, u73, u74, u75, u76, u77, u78, u79, u80, u81, u82, u83, u84, u85, u86, u87, u88, u89, u90, u91, u92, u93, u94, u95, u96, u97, u98, u99, u100, u101, u102, u103, u104, u105, u106, u107, u108, u109, u110, u111, u112, u113, u114, u115, u116, u117, u118, u119, u120, u121, u122, u123, u124, u125, u126, u127, u128, u129, u130, u131, u132, u133, u134, u135, u136, u137, u138, u139, u140, u141, u142, u143, u144, u145, u146, u147, u148, u149, u150, u151, u152, u153, u154, u155, u156, u157, u158, u159, u160, u161, u162, u163, u164, u165, u166, u167, u168, u169, u170, u171, u172, u173, u174, u175, u176, u177, u178, u179, u180, u181, u182, u183, u184, u185, u186, u187, u188, u189, u190, u191, u192, u193, u194, u195, u196, u197, u198, u199, u200, u201, u202, u203, u204, u205, u206, u207, u208, u209, u210, u211, u212, u213, u214, u215, u216, u217, u218, u219, u220, u221, u222, u223, u224, u225, u226, u227, u228, u229, u230, u231, u232, u233, u234, u235, u236, u237, u238, u239, u240, u241, u242, u243, u244, u245, u246, u247, u248, u249, u250, u251, u252, u253, u254, u255, u256, u257, u258, u259, u260, u261, u262, u263, u264, u265, u266, u267, u268, u269, u270, u271, u272, u273, u274, u275, u276, u277, u278, u279, u280, u281, u282, u283, u284, u285, u286, u287, u288, u289, u290, u291, u292, u293, u294, u295, u296, u297, u298, u299, u300, u301, u302, u303, u304, u305, u306, u307, u308, u309, u310, u311, u312, u313, u314, u315, u316, u317, u318, u319, u320, u321, u322, u323, u324, u325, u326, u327, u328, u329, u330, u331, u332, u333, u334, u335, u336, u337, u338, u339, u340, u341, u342, u343, u344, u345, u346, u347, u348, u349, u350, u351, u352, u353, u354, u355, u356, u357, u358, u359, u360, u361, u362, u363, u364, u365, u366, u367, u368, u369, u370, u371, u372, u373, u374, u375, u376, u377, u378, u379, u380, u381, u382, u383, u384, u385, u386, u387, u388, u389, u390, u391, u392, u393, u394, u395, u396, u397, u398, u399, u400, u401, u402, u403, u404, u405, u406, u407, u408, u409, u410, u411, u412, u413, u414, u415, u416, u417, u418, u419, u420, u421, u422, u423, u424, u425, u426, u427, u428, u429, u430, u431, u432, u433, u434, u435, u436, u437, u438, u439, u440, u441, u442, u443, u444, u445, u446, u447, u448, u449, u450, u451, u452, u453, u454, u455, u456, u457, u458, u459, u460, u461, u462, u463, u464, u465, u466, u467, u468, u469, u470, u471, u472, u473, u474, u475, u476, u477, u478, u479, u480, u481, u482, u483, u484, u485, u486, u487, u488, u489, u490, u491, u492, u493, u494, u495, u496, u497, u498, u499, u500, u501, u502, u503, u504, u505, u506, u507, u508, u509, u510, u511, u512, u513, u514, u515, u516, u517, u518, u519, u520, u521, u522, u523, u524, u525, u526, u527, u528, u529, u530, u531, u532, u533, u534, u535, u536, u537, u538, u539, u540, u541, u542, u543, u544, u545, u546, u547, u548, u549, u550, u551, u552, u553, u554, u555, u556, u557, u558, u559, u560, u561, u562, u563, u564, u565, u566, u567, u568, u569, u570, u571, u572, u573, u574, u575, u576, u577, u578, u579, u580, u581, u582, u583, u584, u585, u586, u587, u588, u589, u590, u591, u592, u593, u594, u595, u596, u597, u598, u599, u600, u601, u602, u603, u604, u605, u606, u607, u608, u609, u610, u611, u612, u613, u614, u615, u616, u617, u618, u619, u620, u621, u622, u623, u624, u625, u626, u627, u628, u629, u630, u631, u632, u633, u634, u635, u636, u637, u638, u639, u640, u641, u642, u643, u644, u645, u646, u647, u648, u649, u650, u651, u652, u653, u654, u655, u656], []⟩ V1) :
    Code.wp Yba.prog law29 Q ⟨#[.slice I.aR I.nR I.cR, .slice I.aM I.nM I.cM, .slice I.aS I.nS I.cS, oct I.ex, oct I.kd, u5, u6, u7, u8, u9, u10, dn bR I.nR, ptr bNum, u13, u14, u15, num (szI I.rs I.nR), u17, ptr bI, u19, num 0, ptr bRul, u22, u23, u24, u25, u26, u27, u28, u29, u30, u31, u32, u33, u34, u35, u36, u37, u38, u39, u40, u41, u42, u43, u44, u45, u46, u47, u48, u49, u50, u51, u52, u53, u54, u55, u56, u57, u58, u59, u60, u61, u62, u63, u64, u65, u66, u67, u68, u69, u70, u71, u72, u73, u74, u75, u76, u77, u78, u79, u80, u81, u82, u83, u84, u85, u86, u87, u88, u89, u90, u91, u92, u93, u94, u95, u96, u97, u98, u99, u100, u101, u102, u103, u104, u105, u106, u107, u108, u109, u110, u111, u112, u113, u114, u115, u116, u117, u118, u119, u120, u121, u122, u123, u124, u125, u126, u127, u128, u129, u130, u131, u132, u133, u134, u135, u136, u137, u138, u139, u140, u141, u142, u143, u144, u145, u146, u147, u148, u149, u150, u151, u152, u153, u154, u155, u156, u157, u158, u159, u160, u161, u162, u163, u164, u165, u166, u167, u168, u169, u170, u171, u172, u173, u174, u175, u176, u177, u178, u179, u180, u181, u182, u183, u184, u185, u186, u187, u188, u189, u190, u191, u192, u193, u194, u195, u196, u197, u198, u199, u200, u201, u202, u203, u204, u205, u206, u207, u208, u209, u210, u211, u212, u213, u214, u215, u216, u217, u218, u219, u220, u221, u222, u223, u224, u225, u226, u227, u228, u229, u230, u231, u232, u233, u234, u235, u236, u237, u238, u239, u240, u241, u242, u243, u244, u245, u246, u247, u248, u249, u250, u251, u252, u253, u254, u255, u256, u257, u258, u259, u260, u261, u262, u263, u264, u265, u266, u267, u268, u269, u270, u271, u272, u273, u274, u275, u276, u277, u278, u279, u280, u281, u282, u283, u284, u285, u286, u287, u288, u289, u290, u291, u292, u293, u294, u295, u296, u297, u298, u299, u300, u301, u302, u303, u304, u305, u306, u307, u308, u309, u310, u311, u312, u313, u314, u315, u316, u317, u318, u319, u320, u321, u322, u323, u324, u325, u326, u327, u328, u329, u330, u331, u332, u333, u334, u335, u336, u337, u338, u339, u340, u341, u342, u343, u344, u345, u346, u347, u348, u349, u350, u351, u352, u353, u354, u355, u356, u357, u358, u359, u360, u361, u362, u363, u364, u365, u366, u367, u368, u369, u370, u371, u372, u373, u374, u375, u376, u377, u378, u379, u380, u381, u382, u383, u384, u385, u386, u387, u388, u389, u390, u391, u392, u393, u394, u395, u396, u397, u398, u399, u400, u401, u402, u403, u404, u405, u406, u407, u408, u409, u410, u411, u412, u413, u414, u415, u416, u417, u418, u419, u420, u421, u422, u423, u424, u425, u426, u427, u428, u429, u430, u431, u432, u433, u434, u435, u436, u437, u438, u439, u440, u441, u442, u443, u444, u445, u446, u447, u448, u449, u450, u451, u452, u453, u454, u455, u456, u457, u458, u459, u460, u461, u462, u463, u464, u465, u466, u467, u468, u469, u470, u471, u472, u473, u474, u475, u476, u477, u478, u479, u480, u481, u482, u483, u484, u485, u486, u487, u488, u489, u490, u491, u492, u493, u494, u495, u496, u497, u498, u499, u500, u501, u502, u503, u504, u505, u506, u507, u508, u509, u510, u511, u512, u513, u514, u515, u516, u517, u518, u519, u520, u521, u522, u523, u524, u525, u526, u527, u528, u529, u530, u531, u532, u533, u534, u535, u536, u537, u538, u539, u540, u541, u542, u543, u544, u545, u546, u547, u548, u549, u550, u551, u552, u553, u554, u555, u556, u557, u558, u559, u560, u561, u562, u563, u564, u565, u566, u567, u568, u569, u570, u571, u572, u573, u574, u575, u576, u577, u578, u579, u580, u581, u582, u583, u584, u585, u586, u587, u588, u589, u590, u591, u592, u593, u594, u595, u596, u597, u598, u599, u600, u601, u602, u603, u604, u605, u606, u607, u608, u609, u610, u611, u612, u613, u614, u615, u616, u617, u618, u619, u620, u621, u622, u623, u624, u625, u626, u627, u628, u629, u630, u631, u632, u633, u634, u635, u636, u637, u638, u639, u640, u641, u642, u643, u644, u645, u646, u647, u648, u649, u650, u651, u652, u653, u654, u655, u656], []⟩ V := by
  have hnM := O.hM
  have hnR := O.hR
  have hnS := O.hS
  have HO : Hid _ := O
  have HN : Hid _ := @next
  clear O next
  conv => arg 2; whnf
  refine wp_seq_k (fun K hK => ?_)
  have HK : Hid _ := hK
  clear hK
  go_upto_region 30 with fail
  go_loopw [20, 125] (fun v v2 wr => ∃ (k : Nat) (mc : List Value), k ≤ I.nM ∧ v2 = num k ∧ v = num (nI I.mI k).2 ∧ Row wr bI 28 ((List.range 8).map (fun j => .int .i64 (ofO ((nI I.mI k).1 j)))) ∧ Row wr bM 43 mc ∧ mc.length = I.nM * 2 ∧ (∀ i, i < k → mc[i * 2]? = some (.string (nm 105 (I.mI i))) ∧ mc[i * 2 + 1]? = some (str (I.mR i))) ∧ Row wr bRul 39 rc ∧ Below bI V wr) (fun _ v _ => I.nM - (intOf v).toNat)
  case atStart => exact ⟨0, mc, Nat.zero_le _, rfl, rfl, hI, hM, hlen, fun i hi => by omega, hR, Below.refl _ _⟩
  case round =>
    clear hI hM hR hlen
    obtain ⟨k, mc, hk, rfl, rfl, hI, hM, hlen, hmc, hR, hB⟩ := hrel
    by_cases hlk : k < I.nM
    · obtain ⟨b, off, haM, hlt, hc⟩ := HO.out.rM (by omega)
      have c0 := (hB.cell (Nat.lt_of_lt_of_le hlt lo)).trans ((hL.cell hlt).trans (hc k hlk).1)
      have c1 := (hB.cell (Nat.lt_of_lt_of_le hlt lo)).trans ((hL.cell hlt).trans (hc k hlk).2)
      have g1 : (k : Int) < (I.nM : Int) := by omega
      have hx := HO.out.bmi k
      have hy := HO.out.bmr k
      rw [haM]
      clear hc HN HK
      have hsz := hB.size
      go_upto_region 32 with fail
      have hrow := Row.new wr 41 [oct (I.mi k), oct (I.mr k)] _ rfl
      have y0 := hrow.cell 0
      have y1 := hrow.cell 1
      simp only [List.getElem?_cons_zero, List.getElem?_cons_succ] at y0 y1
      have q1 := hI.alloc (.cells #[oct (I.mi k), oct (I.mr k)] 41)
      have q2 := hR.alloc (.cells #[oct (I.mi k), oct (I.mr k)] 41)
      have q3 := hM.alloc (.cells #[oct (I.mi k), oct (I.mr k)] 41)
      have hB3 := hB.alloc (by omega) (.cells #[oct (I.mi k), oct (I.mr k)] 41)
      have hMv := hM.lt
      obtain ⟨bv, hbv⟩ : ∃ b, wr.heap.size = b := ⟨_, rfl⟩
      rw [hbv] at hrow y0 y1 hMv ⊢
      generalize hVV : World.alloc wr _ = V2 at hrow y0 y1 q1 q2 q3 hB3 ⊢
      clear hVV c0 c1 hB hI hR hM
      have n1 := (q1.cell (I.mI k)).trans (range_get _ _ _ (I.mIl k))
      have fz := q1.frozen (I.mI k)
      have hml := I.mRl k
      have hil := I.mIl k
      have gi : (I.mI k : Int) < 8 := by omega
      have gr : (I.mR k : Int) < 10 := by omega
      have hm8 : IntKind.i64.wrap ((I.mi k : Int).tmod 8) = (I.mI k : Int) := wm8 _
      have hm81 : IntKind.i64.wrap (I.mI k : Int) = (I.mI k : Int) := by rw [IntKind.wrap_i64]; omega
      have hm82 : (I.mi k : Int) % 8 = (I.mI k : Int) := by have : I.mI k = I.mi k % 8 := rfl; omega
      have hm10 : IntKind.i64.wrap ((I.mr k : Int).tmod 10) = (I.mR k : Int) := wm10 _
      have hm101 : IntKind.i64.wrap (I.mR k : Int) = (I.mR k : Int) := by rw [IntKind.wrap_i64]; omega
      have hm102 : (I.mr k : Int) % 10 = (I.mR k : Int) := by have : I.mR k = I.mr k % 10 := rfl; omega
      have hnk : (nI I.mI k).2 ≤ 8 := by rw [nI_cnt I.mI k I.mIl]; exact cnt_le _ _
      have hnS := nI_step I.mI k
      cases hq : (nI I.mI k).1 (I.mI k) with
      | none =>
        rw [hq] at n1
        simp only [ofO] at n1
        rw [hq] at hnS
        simp only [Option.isSome_none, Bool.false_eq_true, if_false] at hnS
        have yr := hrow.setOther ⟨bI, I.mI k, none⟩ (num (nI I.mI k).2) (by show bv ≠ bI; omega)
        replace q2 := q2.setOther ⟨bI, I.mI k, none⟩ (num (nI I.mI k).2) (by show bRul ≠ bI; omega)
        replace q3 := q3.setOther ⟨bI, I.mI k, none⟩ (num (nI I.mI k).2) (by show bM ≠ bI; omega)
        replace q1 := q1.set (I.mI k) (num (nI I.mI k).2)
        replace hB3 := hB3.setCell (p := ⟨bI, I.mI k, none⟩) (Nat.le_refl _) (num (nI I.mI k).2)
        rw [range_set] at q1
        go_upto_region 36 with fail
        generalize hVV : World.setCell V2 _ _ = V3 at yr q1 q2 q3 hB3 ⊢
        clear hVV n1 fz y0 y1 hrow
        have yy1 := yr.cell 1
        simp only [List.getElem?_cons_zero, List.getElem?_cons_succ] at yy1
        have hsz3 := hB3.size
        have k0 : V3.cell? ⟨bRul, 3, none⟩ = some (dn bM I.nM) := (q2.cell 3).trans hrc
        have l0 : V3.cell? ⟨bv, 1, none⟩ = some (oct (I.mr k)) := yy1
        obtain ⟨o1, ho1⟩ : ∃ o : Obj, o = .cells #[.int .u8 105, .int .u8 (48 + (I.mI k : Int))] 5 := ⟨_, rfl⟩
        obtain ⟨o2, ho2⟩ : ∃ o : Obj, o = .cells #[.int .u8 114, .int .u8 (48 + (I.mR k : Int))] 5 := ⟨_, rfl⟩
        have q21 := q2.alloc o1
        have q22 := q21.alloc o2
        have q31 := q3.alloc o1
        have q32 := q31.alloc o2
        have yr1 := yr.alloc o1
        have yr2 := yr1.alloc o2
        have k1 := (q21.cell 3).trans hrc
        have k2 := (q22.cell 3).trans hrc
        have l1 := yr1.cell 1
        have l2 := yr2.cell 1
        have hg0 : k * 2 < mc.length := by omega
        have hg1 : k * 2 + 1 < mc.length := by omega
        have c4 := (q32.cell (k * 2)).trans (List.getElem?_eq_getElem hg0)
        have c5 := (q32.cell (k * 2 + 1)).trans (List.getElem?_eq_getElem hg1)
        have f4 := q32.frozen (k * 2)
        have f5 := q32.frozen (k * 2 + 1)
        have w22 := (q22.setOther ⟨bM, k * 2, none⟩ (.string (nm 105 (I.mI k))) (by show bRul ≠ bM; omega)).setOther ⟨bM, k * 2 + 1, none⟩ (str (I.mR k)) (by show bRul ≠ bM; omega)
        have w32 := (q32.set (k * 2) (.string (nm 105 (I.mI k)))).set (k * 2 + 1) (str (I.mR k))
        have wyr := (yr2.setOther ⟨bM, k * 2, none⟩ (.string (nm 105 (I.mI k))) (by show bv ≠ bM; omega)).setOther ⟨bM, k * 2 + 1, none⟩ (str (I.mR k)) (by show bv ≠ bM; omega)
        have wI := ((((q1.alloc o1).alloc o2)).setOther ⟨bM, k * 2, none⟩ (.string (nm 105 (I.mI k))) (by show bI ≠ bM; omega)).setOther ⟨bM, k * 2 + 1, none⟩ (str (I.mR k)) (by show bI ≠ bM; omega)
        have wB := (((hB3.alloc (by have := hB3.size; omega) o1).alloc (by have := hB3.size; simp only [World.size_alloc]; omega) o2).setCell (p := ⟨bM, k * 2, none⟩) (show bI ≤ bM by omega) (.string (nm 105 (I.mI k)))).setCell (p := ⟨bM, k * 2 + 1, none⟩) (show bI ≤ bM by omega) (str (I.mR k))
        have k3 := (w22.cell 3).trans hrc
        have l3 := wyr.cell 1
        simp only [List.getElem?_cons_zero, List.getElem?_cons_succ] at l1 l2 l3
        have HW : Hid _ := And.intro w22 (And.intro w32 (And.intro wI wB))
        subst ho1 ho2
        clear q1 q2 q3 q21 q22 q31 q32 yr yr1 yr2 w22 w32 wyr wI wB hB3 yy1
        go_region_held3 (fun V => V.cell? ⟨bRul, 3, none⟩ = some (dn bM I.nM) ∧ V.cell? ⟨bv, 1, none⟩ = some (oct (I.mr k))) (first | exact ⟨k0, l0⟩ | exact ⟨k1, l1⟩ | exact ⟨k2, l2⟩ | exact ⟨k3, l3⟩)
          (first | (go_at_call 4; (have _gate : True ∨ False := by assumption); (try rw [hm10]); refine (name_ok 114 (I.mR k) (by omega) (by omega) _).mono ?_; rintro e w2 ⟨rfl, rfl⟩) | (go_at_call 4; (try rw [hm8]); refine (name_ok 105 (I.mI k) (by omega) (by omega) _).mono ?_; rintro e w2 ⟨rfl, rfl⟩; have _mark : True ∨ False := Or.inl trivial))
        go_wp2
        go_roundw
        case rel =>
          obtain ⟨w22, w32, wI, wB⟩ := HW.out
          refine ⟨k + 1, _, by omega, by simp, by rw [hnS]; simp, ?_, w32, by simp [hlen], fun i hi => ?_, w22, wB.drw⟩
          · have e : (fun j => if j = I.mI k then num (nI I.mI k).2 else Value.int .i64 (ofO ((nI I.mI k).1 j))) = (fun j => Value.int .i64 (ofO ((nI I.mI (k + 1)).1 j))) := by
              funext j
              rw [hnS]
              show _ = Value.int .i64 (ofO (updO (nI I.mI k).1 (I.mI k) (nI I.mI k).2 j))
              unfold updO
              by_cases h1 : j = I.mI k
              · rw [if_pos h1, if_pos h1]; rfl
              · rw [if_neg h1, if_neg h1]
            rw [← e]
            exact wI
          · rw [List.getElem?_set, List.getElem?_set, List.getElem?_set, List.getElem?_set]
            by_cases e : i = k
            · subst e
              simp [hlen, hlk]
              omega
            · have hi' : i < k := by omega
              simp [show ¬ k * 2 = i * 2 by omega, show ¬ k * 2 + 1 = i * 2 by omega, show ¬ k * 2 = i * 2 + 1 by omega, show ¬ k * 2 + 1 = i * 2 + 1 by omega, hmc i hi']
        case measure => simp [intOf]; omega
      | some r =>
        rw [hq] at n1
        simp only [ofO] at n1
        rw [hq] at hnS
        simp only [Option.isSome_some, if_true] at hnS
        have r0 : decide ((r : Int) < 0) = false := by simp
        have r1 : (0 : Int) ≤ (r : Int) := by omega
        have yr := hrow
        go_upto_region 36 with fail
        have yy1 := y1
        clear n1 fz y0 y1 hrow
        have hsz3 := hB3.size
        have k0 : V2.cell? ⟨bRul, 3, none⟩ = some (dn bM I.nM) := (q2.cell 3).trans hrc
        have l0 : V2.cell? ⟨bv, 1, none⟩ = some (oct (I.mr k)) := yy1
        obtain ⟨o1, ho1⟩ : ∃ o : Obj, o = .cells #[.int .u8 105, .int .u8 (48 + (I.mI k : Int))] 5 := ⟨_, rfl⟩
        obtain ⟨o2, ho2⟩ : ∃ o : Obj, o = .cells #[.int .u8 114, .int .u8 (48 + (I.mR k : Int))] 5 := ⟨_, rfl⟩
        have q21 := q2.alloc o1
        have q22 := q21.alloc o2
        have q31 := q3.alloc o1
        have q32 := q31.alloc o2
        have yr1 := yr.alloc o1
        have yr2 := yr1.alloc o2
        have k1 := (q21.cell 3).trans hrc
        have k2 := (q22.cell 3).trans hrc
        have l1 := yr1.cell 1
        have l2 := yr2.cell 1
        have hg0 : k * 2 < mc.length := by omega
        have hg1 : k * 2 + 1 < mc.length := by omega
        have c4 := (q32.cell (k * 2)).trans (List.getElem?_eq_getElem hg0)
        have c5 := (q32.cell (k * 2 + 1)).trans (List.getElem?_eq_getElem hg1)
        have f4 := q32.frozen (k * 2)
        have f5 := q32.frozen (k * 2 + 1)
        have w22 := (q22.setOther ⟨bM, k * 2, none⟩ (.string (nm 105 (I.mI k))) (by show bRul ≠ bM; omega)).setOther ⟨bM, k * 2 + 1, none⟩ (str (I.mR k)) (by show bRul ≠ bM; omega)
        have w32 := (q32.set (k * 2) (.string (nm 105 (I.mI k)))).set (k * 2 + 1) (str (I.mR k))
        have wyr := (yr2.setOther ⟨bM, k * 2, none⟩ (.string (nm 105 (I.mI k))) (by show bv ≠ bM; omega)).setOther ⟨bM, k * 2 + 1, none⟩ (str (I.mR k)) (by show bv ≠ bM; omega)
        have wI := ((((q1.alloc o1).alloc o2)).setOther ⟨bM, k * 2, none⟩ (.string (nm 105 (I.mI k))) (by show bI ≠ bM; omega)).setOther ⟨bM, k * 2 + 1, none⟩ (str (I.mR k)) (by show bI ≠ bM; omega)
        have wB := (((hB3.alloc (by have := hB3.size; omega) o1).alloc (by have := hB3.size; simp only [World.size_alloc]; omega) o2).setCell (p := ⟨bM, k * 2, none⟩) (show bI ≤ bM by omega) (.string (nm 105 (I.mI k)))).setCell (p := ⟨bM, k * 2 + 1, none⟩) (show bI ≤ bM by omega) (str (I.mR k))
        have k3 := (w22.cell 3).trans hrc
        have l3 := wyr.cell 1
        simp only [List.getElem?_cons_zero, List.getElem?_cons_succ] at l1 l2 l3
        have HW : Hid _ := And.intro w22 (And.intro w32 (And.intro wI wB))
        subst ho1 ho2
        clear q1 q2 q3 q21 q22 q31 q32 yr yr1 yr2 w22 w32 wyr wI wB hB3 yy1
        go_region_held3 (fun V => V.cell? ⟨bRul, 3, none⟩ = some (dn bM I.nM) ∧ V.cell? ⟨bv, 1, none⟩ = some (oct (I.mr k))) (first | exact ⟨k0, l0⟩ | exact ⟨k1, l1⟩ | exact ⟨k2, l2⟩ | exact ⟨k3, l3⟩)
          (first | (go_at_call 4; (have _gate : True ∨ False := by assumption); (try rw [hm10]); refine (name_ok 114 (I.mR k) (by omega) (by omega) _).mono ?_; rintro e w2 ⟨rfl, rfl⟩) | (go_at_call 4; (try rw [hm8]); refine (name_ok 105 (I.mI k) (by omega) (by omega) _).mono ?_; rintro e w2 ⟨rfl, rfl⟩; have _mark : True ∨ False := Or.inl trivial))
        go_wp2
        go_roundw
        case rel =>
          obtain ⟨w22, w32, wI, wB⟩ := HW.out
          refine ⟨k + 1, _, by omega, by simp, by rw [hnS], ?_, w32, by simp [hlen], fun i hi => ?_, w22, wB.drw⟩
          · rw [hnS]
            exact wI
          · rw [List.getElem?_set, List.getElem?_set, List.getElem?_set, List.getElem?_set]
            by_cases e : i = k
            · subst e
              simp [hlen, hlk]
              omega
            · have hi' : i < k := by omega
              simp [show ¬ k * 2 = i * 2 by omega, show ¬ k * 2 + 1 = i * 2 by omega, show ¬ k * 2 = i * 2 + 1 by omega, show ¬ k * 2 + 1 = i * 2 + 1 by omega, hmc i hi']
        case measure => simp [intOf]; omega
    · obtain rfl : k = I.nM := by omega
      go_wp2
      exact HK.out _ _ (HN.out hI hM hlen hmc hR hB)

end Order
end Go.Proofs.Ybulkcrmg
