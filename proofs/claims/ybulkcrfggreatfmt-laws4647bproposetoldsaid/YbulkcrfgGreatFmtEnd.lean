/-
  LawS4647BPropose: the last comparison.
-/
import Derived.Test.YbulkcrfgGreatFmtCut
namespace Go.Proofs.YbulkcrfgGreatFmt
open Go.RowKit
namespace Propose
open Kit

set_option linter.unusedSimpArgs false in
set_option maxRecDepth 1000000 in
set_option maxHeartbeats 16000000 in
theorem lawEnd (w0 V : World) (m N T id k eb S mb bf : Nat) (gv phv wv : Value) (r : Option Nat) (hk : 1 ≤ k ∧ k ≤ 20) (hL : Left3 w0 V m N T id k eb S mb bf gv phv r)
    (hw1 : r = none → wv = .int .i64 (-1)) (hw2 : ∀ t, r = some t → wv = num t) {u0 u1 u2 u3 u4 u5 u6 u7 u8 u9 u10 u11 u12 u13 u14 u15 u16 u18 u19 u20 u21 u22 u23 u24 u25 u26 u27 u28 u29 u30 u31 u32 u34 u36 u37 u38 u39 u40 u41 u42 u43 u45 u46 u47 u48 u49 u50 u51 u52 u53 u54 u55 u56 u57 u58 u59 u60 u61 u62 u63 u64 u65 u66 u67 u68 u69 u70 u71 u72 u73 u74 u75 u76 u77 u78 u79 u80 u81 u82 u83 u84 u85 u86 u87 u88 u89 u90 u91 u92 u93 u94 u95 u96 u97 u98 u99 u100 u101 u102 u103 u104 u105 u106 u107 u108 u109 u110 u111 u112 u113 u114 u115 u116 u117 u118 u119 u120 u121 u122 u123 u124 u125 u126 u127 u128 u129 u130 u131 u132 u133 u134 u135 u136 u137 u138 u139 u140 u141 u142 u143 u144 u145 u146 u147 u148 u149 u150 u151 u152 u153 u154 u155 u156 u157 u158 u159 u160 u161 u162 u163 u164 u165 u166 u167 u168 u169 u170 u171 u172 u173 u174 u175 u176 u177 u178 u179 u180 u181 u182 u183 u184 u185 u186 u187 u188 u189 u190 u191 u192 u193 u194 u195 u196 u197 u198 u199 u200 u201 u202 u203 u204 u205 u206 u207 u208 u209 u210 u211 u212 u213 u214 u215 u216 u217 u218 u219 u220 u221 u222 u223 u224 u225 u226 u227 u228 u229 u230 u231 u232 u233 u234 u235 u236 u237 u238 u239 u240 u241 u242 u243 u244 u245 u246 u247 u248 u249 u250 u251 u252 u253 u254 u255 u256 u257 u258 u259 u260 u261 u262 u263 u264 u265 u266 u267 u268 u269 u270 u271 u272 u273 u274 u275 u276 u277 u278 u279 u280 u281 u282 u283 u284 u285 u286 u287 u288 u289 u290 u291 u292 u293 u294 u295 u296 u297 u298 u299 u300 u301 u302 u303 u304 u305 u306 u307 u308 u309 u310 u311 u312 u313 u314 u315 u316 u317 u318 u319 u320 u321 u322 u323 u324 u325 u326 u327 u328 u329 u330 u331 u332 u333 u334 u335 u336 u337 u338 u339 u340 u341 u342 u343 u344 u345 u346 u347 u348 u349 u350 u351 u352 u353 u354 u355 u356 u357 u358 u359 u360 u361 u362 u363 : Value} :
    Code.wp Ybaz.prog law86 (bodyPost Ybaz.prog Ybaz.f3 (lawPost w0)) ⟨#[u0, u1, u2, u3, u4, u5, u6, u7, u8, u9, u10, u11, u12, u13, u14, u15, u16, num k, u18, u19, u20, u21, u22, u23, u24, u25, u26, u27, u28, u29, u30, u31, u32, ptr m, u34, ptr bf, u36, u37, u38, u39, u40, u41, u42, u43, wv, u45, u46, u47, u48, u49, u50, u51, u52, u53, u54, u55, u56, u57, u58, u59, u60, u61, u62, u63, u64, u65, u66, u67, u68, u69, u70, u71, u72, u73, u74, u75, u76, u77, u78, u79, u80, u81, u82, u83, u84, u85, u86, u87, u88, u89, u90, u91, u92, u93, u94, u95, u96, u97, u98, u99, u100, u101, u102, u103, u104, u105, u106, u107, u108, u109, u110, u111, u112, u113, u114, u115, u116, u117, u118, u119, u120, u121, u122, u123, u124, u125, u126, u127, u128, u129, u130, u131, u132, u133, u134, u135, u136, u137, u138, u139, u140, u141, u142, u143, u144, u145, u146, u147, u148, u149, u150, u151, u152, u153, u154, u155, u156, u157, u158, u159, u160, u161, u162, u163, u164, u165, u166, u167, u168, u169, u170, u171, u172, u173, u174, u175, u176, u177, u178, u179, u180, u181, u182, u183, u184, u185, u186, u187, u188, u189, u190, u191, u192, u193, u194, u195, u196, u197, u198, u199, u200, u201, u202, u203, u204, u205, u206, u207, u208, u209, u210, u211, u212, u213, u214, u215, u216, u217, u218, u219, u220, u221, u222, u223, u224, u225, u226, u227, u228, u229, u230, u231, u232, u233, u234, u235, u236, u237, u238, u239, u240, u241, u242, u243, u244, u245, u246, u247, u248, u249, u250, u251, u252, u253, u254, u255, u256, u257, u258, u259, u260, u261, u262, u263, u264, u265, u266, u267, u268, u269, u270, u271, u272, u273, u274, u275, u276, u277, u278, u279, u280, u281, u282, u283, u284, u285, u286, u287, u288, u289, u290, u291, u292, u293, u294, u295, u296, u297, u298, u299, u300, u301, u302, u303, u304, u305, u306, u307, u308, u309, u310, u311, u312, u313, u314, u315, u316, u317, u318, u319, u320, u321, u322, u323, u324, u325, u326, u327, u328, u329, u330, u331, u332, u333, u334, u335, u336, u337, u338, u339, u340, u341, u342, u343, u344, u345, u346, u347, u348, u349, u350, u351, u352, u353, u354, u355, u356, u357, u358, u359, u360, u361, u362, u363], []⟩ V := by
  have HL : Hid (Left3 w0 V m N T id k eb S mb bf gv phv r) := hL
  obtain ⟨h1, h2, h3, es, c, pv, pk, k1, k2, k3, k4⟩ := hL
  have c17 := k2.cells.2.2.2.2.2.2.1
  have c18 := k2.cells.2.2.2.2.2.2.2
  have c11 := k2.cells.2.2.2.2.1
  have d3 : V.cell? ⟨eb, 3, none⟩ = some (.map (some mb)) := by
    obtain ⟨r, r1, r2, r3, r4, r5⟩ := k3
    exact (r1.cell 3).trans r4
  have hlen := fun t => run_len_map V mb c es t k1
  have hlen2 := fun q t => run_len_map (V.drewN q) mb c es t k1
  have hlend := fun t => run_len_map V.drew mb c es t k1
  rcases k4 with ⟨rfl, rfl, rfl, rfl⟩ | ⟨t, ht, rfl, rfl, rfl, rfl⟩
  · obtain rfl := hw1 rfl
    conv => arg 2; whnf
    go_wp2_with fail
    go_quiet (fail)
    go_wp2
    go_ret
    exact ⟨rfl, HL.out.low.drwN _⟩
  · obtain rfl := hw2 t rfl
    clear hw1 hw2 c17 c18 c11 d3 hlen hlen2 hlend k1 k2 k3 h1 h2 h3
    conv => arg 2; whnf
    go_upto_region 89 with (go_at_call 8; refine (pool_ok t ht _).mono ?_; rintro e w1 ⟨rfl, hb1⟩)
    have HW : Hid (Left3 w0 w1 m N T id k eb S mb bf gv phv (some t)) := HL.out.below hb1
    obtain ⟨h1, h2, h3, es, c, pv, pk, k1, k2, k3, k4⟩ := HW.out
    rcases k4 with ⟨h, _⟩ | ⟨t', ht', h, rfl, rfl, rfl⟩
    · cases h
    cases h
    have c17 := k2.cells.2.2.2.2.2.2.1
    have c18 := k2.cells.2.2.2.2.2.2.2
    have c11 := k2.cells.2.2.2.2.1
    have d3 : w1.cell? ⟨eb, 3, none⟩ = some (.map (some mb)) := by
      obtain ⟨r, r1, r2, r3, r4, r5⟩ := k3
      exact (r1.cell 3).trans r4
    have hlen := fun t => run_len_map w1 mb c _ t k1
    have hl := run_lookup_one w1 mb c 0 ((3 * k - 1 : Nat) : Int) (.string (lockS t)) k1
    have e1 : IntKind.i64.wrap (3 * (k : Int)) = 3 * (k : Int) := by rw [IntKind.wrap_i64]; omega
    have e2 : 3 * (k : Int) - 1 = ((3 * k - 1 : Nat) : Int) := by omega
    have e3 : IntKind.i64.wrap ((3 * k - 1 : Nat) : Int) = ((3 * k - 1 : Nat) : Int) := by rw [IntKind.wrap_i64]; omega
    have hl5 : ¬ 9223372036854775807 < 5 + (poolL t).length := by have := poolL_len t; omega
    clear hb1 k1 k2 k3 h1 h2 h3 HL
    unfold pool
    go_wp2_with fail
    go_ret
    exact ⟨rfl, HW.out.low⟩
end Propose
end Go.Proofs.YbulkcrfgGreatFmt
