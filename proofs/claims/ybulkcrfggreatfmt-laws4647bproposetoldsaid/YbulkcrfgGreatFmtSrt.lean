/-
  LawS4647BPropose: the lists are sorted.
-/
import Derived.Test.YbulkcrfgGreatFmtEncL
import Derived.Test.YbulkcrfgGreatFmtStable
namespace Go.Proofs.YbulkcrfgGreatFmt
open Go.RowKit
namespace Propose
open Kit

/-- What holds of the lists ahead of the sort. -/
structure Pre (V : World) (N g n : Nat) (e : Nat → El) (X : Nat → List Nat) : Prop where
  lst : Lst V g n e X
  ne : ∀ i, i < n → ∀ b off, (e i).va = some ⟨b, off, none⟩ → b ≠ g
  fN : ∀ i, i < n → 1 ≤ (e i).f ∧ (e i).f ≤ N

set_option linter.unusedSimpArgs false in
set_option maxRecDepth 1000000 in
set_option maxHeartbeats 16000000 in
theorem lawSort (Fi : Go.Stop.Interp) (w0 V : World) (N T me k v0 g n cap : Nat) (e : Nat → El) (X : Nat → List Nat) (hF : Fi.answers V.tape) (hN : 1 ≤ N ∧ N ≤ 7) (hT : T < N) (hme : 1 ≤ me ∧ me ≤ N) (hk : 1 ≤ k ∧ k ≤ 20) (hn : n ≤ 300) (hv : 1 ≤ v0 ∧ v0 ≤ 4)
    (hE : Pre V N g n e X) (hg : w0.heap.size ≤ g) (hB : Below w0.heap.size w0 V)
    (hr : ∀ E X, Srt E 0 n → (∀ i, i < n → 1 ≤ (E i).f ∧ (E i).f ≤ N) → (∀ i, i < n → ∀ x ∈ X i, x < 6) → propR (als E X) me n (N - T) (fun i => decide (v0 = i)) = wantR (als E X) me n N (N - T) (cnd (als E X) me (fun i => decide (v0 = i)) n) (hdc (frm (als E X) me n) N)) {u0 u1 u2 u3 u4 u5 u6 u7 u8 u9 u10 u11 u12 u13 u20 u21 u22 u23 u24 u25 u26 u27 u28 u29 u30 u31 u32 u33 u34 u35 u36 u37 u38 u39 u40 u41 u42 u43 u44 u45 u46 u47 u48 u49 u50 u51 u52 u53 u54 u55 u56 u57 u58 u59 u60 u61 u62 u63 u64 u65 u66 u67 u68 u69 u70 u71 u72 u73 u74 u75 u76 u77 u78 u79 u80 u81 u82 u83 u84 u85 u86 u87 u88 u89 u90 u91 u92 u93 u94 u95 u96 u97 u98 u99 u100 u101 u102 u103 u104 u105 u106 u107 u108 u109 u110 u111 u112 u113 u114 u115 u116 u117 u118 u119 u120 u121 u122 u123 u124 u125 u126 u127 u128 u129 u130 u131 u132 u133 u134 u135 u136 u137 u138 u139 u140 u141 u142 u143 u144 u145 u146 u147 u148 u149 u150 u151 u152 u153 u154 u155 u156 u157 u158 u159 u160 u161 u162 u163 u164 u165 u166 u167 u168 u169 u170 u171 u172 u173 u174 u175 u176 u177 u178 u179 u180 u181 u182 u183 u184 u185 u186 u187 u188 u189 u190 u191 u192 u193 u194 u195 u196 u197 u198 u199 u200 u201 u202 u203 u204 u205 u206 u207 u208 u209 u210 u211 u212 u213 u214 u215 u216 u217 u218 u219 u220 u221 u222 u223 u224 u225 u226 u227 u228 u229 u230 u231 u232 u233 u234 u235 u236 u237 u238 u239 u240 u241 u242 u243 u244 u245 u246 u247 u248 u249 u250 u251 u252 u253 u254 u255 u256 u257 u258 u259 u260 u261 u262 u263 u264 u265 u266 u267 u268 u269 u270 u271 u272 u273 u274 u275 u276 u277 u278 u279 u280 u281 u282 u283 u284 u285 u286 u287 u288 u289 u290 u291 u292 u293 u294 u295 u296 u297 u298 u299 u300 u301 u302 u303 u304 u305 u306 u307 u308 u309 u310 u311 u312 u313 u314 u315 u316 u317 u318 u319 u320 u321 u322 u323 u324 u325 u326 u327 u328 u329 u330 u331 u332 u333 u334 u335 u336 u337 u338 u339 u340 u341 u342 u343 u344 u345 u346 u347 u348 u349 u350 u351 u352 u353 u354 u355 u356 u357 u358 u359 u360 u361 u362 u363 : Value} :
    Code.wp Ybaz.prog law29 (bodyPost Ybaz.prog Ybaz.f3 (lawPost w0)) ⟨#[u0, u1, u2, u3, u4, u5, u6, u7, u8, u9, u10, u11, u12, u13, num N, num T, num me, num k, num v0, .slice (some ⟨g, 0, none⟩) n cap, u20, u21, u22, u23, u24, u25, u26, u27, u28, u29, u30, u31, u32, u33, u34, u35, u36, u37, u38, u39, u40, u41, u42, u43, u44, u45, u46, u47, u48, u49, u50, u51, u52, u53, u54, u55, u56, u57, u58, u59, u60, u61, u62, u63, u64, u65, u66, u67, u68, u69, u70, u71, u72, u73, u74, u75, u76, u77, u78, u79, u80, u81, u82, u83, u84, u85, u86, u87, u88, u89, u90, u91, u92, u93, u94, u95, u96, u97, u98, u99, u100, u101, u102, u103, u104, u105, u106, u107, u108, u109, u110, u111, u112, u113, u114, u115, u116, u117, u118, u119, u120, u121, u122, u123, u124, u125, u126, u127, u128, u129, u130, u131, u132, u133, u134, u135, u136, u137, u138, u139, u140, u141, u142, u143, u144, u145, u146, u147, u148, u149, u150, u151, u152, u153, u154, u155, u156, u157, u158, u159, u160, u161, u162, u163, u164, u165, u166, u167, u168, u169, u170, u171, u172, u173, u174, u175, u176, u177, u178, u179, u180, u181, u182, u183, u184, u185, u186, u187, u188, u189, u190, u191, u192, u193, u194, u195, u196, u197, u198, u199, u200, u201, u202, u203, u204, u205, u206, u207, u208, u209, u210, u211, u212, u213, u214, u215, u216, u217, u218, u219, u220, u221, u222, u223, u224, u225, u226, u227, u228, u229, u230, u231, u232, u233, u234, u235, u236, u237, u238, u239, u240, u241, u242, u243, u244, u245, u246, u247, u248, u249, u250, u251, u252, u253, u254, u255, u256, u257, u258, u259, u260, u261, u262, u263, u264, u265, u266, u267, u268, u269, u270, u271, u272, u273, u274, u275, u276, u277, u278, u279, u280, u281, u282, u283, u284, u285, u286, u287, u288, u289, u290, u291, u292, u293, u294, u295, u296, u297, u298, u299, u300, u301, u302, u303, u304, u305, u306, u307, u308, u309, u310, u311, u312, u313, u314, u315, u316, u317, u318, u319, u320, u321, u322, u323, u324, u325, u326, u327, u328, u329, u330, u331, u332, u333, u334, u335, u336, u337, u338, u339, u340, u341, u342, u343, u344, u345, u346, u347, u348, u349, u350, u351, u352, u353, u354, u355, u356, u357, u358, u359, u360, u361, u362, u363], []⟩ V := by
  have HG : Hid (Fi.answers V.tape ∧ Pre V N g n e X ∧ Below w0.heap.size w0 V) := ⟨hF, hE, hB⟩
  have HR : Hid _ := hr
  have HC : Hid (Calls Ybaz.prog 5 #[dat g n cap, fn] V (SortPost g n 0 n e V)) := SortStable_ok g n cap e V hn hE.lst.arr
  clear hF hE hB hr
  conv => arg 2; whnf
  refine wp_seq_k (fun K0 hK0 => ?_)
  have H0 : Hid _ := hK0
  clear hK0
  go_wp2_with (go_at_call 5; refine HC.out.mono ?_; rintro x w1 ⟨⟨v, rfl⟩, E, hA, hS, hM, hW⟩)
  obtain ⟨σ, hσ⟩ : ∃ σ : Nat → Nat, ∀ i, i < n → σ i < n ∧ E i = e (σ i) := by
    have h : ∀ i, ∃ j, i < n → j < n ∧ E i = e j := fun i => by
      by_cases hi : i < n
      · obtain ⟨j, _, h1, h2⟩ := hM.1 i (Nat.zero_le _) hi
        exact ⟨j, fun _ => ⟨h1, h2⟩⟩
      · exact ⟨0, fun h => absurd h hi⟩
    exact Classical.skolem.1 h
  obtain ⟨q1, q2, q3⟩ := HG.out
  have hL : Lst w1 g n E (fun i => X (σ i)) := by
    refine ⟨hA, fun i hi => ?_⟩
    obtain ⟨h1, h2⟩ := hσ i hi
    rw [h2]
    have ho := q2.lst.ok (σ i) h1
    refine { ho with vl := ?_ }
    rcases ho.vl with h | ⟨b, off, e1, hl, hc⟩
    · exact .inl h
    · refine .inr ⟨b, off, e1, Nat.lt_of_lt_of_le hl hW.size, fun j x hx => ?_⟩
      rw [World.cell?_of_block (w := V) (hW.block b hl (q2.ne (σ i) h1 b off e1))]
      exact hc j x hx
  have hB1 : Below w0.heap.size w0 w1 := ⟨hW.os.trans q3.os, hW.tape.trans q3.tape, hW.output.trans q3.output, Nat.le_trans q3.size hW.size, fun b hb => (hW.block b (Nat.lt_of_lt_of_le hb q3.size) (by omega)).trans (q3.block b hb)⟩
  exact H0.out _ _ (lawEnc Fi w0 w1 N T me k v0 g n cap E (fun i => X (σ i)) (by rw [hW.tape]; exact q1) hN hT hme hk hn hv hL hB1 (HR.out E _ hS (fun i hi => by rw [(hσ i hi).2]; exact q2.fN _ (hσ i hi).1) (fun i hi => (hL.ok i hi).lt)))
end Propose
end Go.Proofs.YbulkcrfgGreatFmt
