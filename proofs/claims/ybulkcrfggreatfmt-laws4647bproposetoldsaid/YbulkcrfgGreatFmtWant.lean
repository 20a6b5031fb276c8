/-
  LawS4647BPropose: the loop over the order.
-/
import Derived.Test.YbulkcrfgGreatFmtEnd
namespace Go.Proofs.YbulkcrfgGreatFmt
open Go.RowKit
namespace Propose
open Kit

/-- From how many of the members 1, .., F a list for me names v. -/
def cntf (a : Nat → AL) (me v n : Nat) : Nat → Nat
  | 0 => 0
  | f + 1 => cntf a me v n f + if nmf a (f + 1) me v n then 1 else 0
theorem cntf_le (a : Nat → AL) (me v n F : Nat) : cntf a me v n F ≤ F := by
  induction F with
  | zero => exact Nat.le_refl _
  | succ f ih =>
    show cntf a me v n f + _ ≤ f + 1
    split <;> omega
def wok (a : Nat → AL) (me n N q : Nat) (C : Nat → Bool) (i : Nat) : Bool := C i && decide (i ≠ 0) && decide (i ≠ 5) && decide (q ≤ cntf a me i n N)
theorem index81_0 (W : World) : (Instr.index 81 (.agg #[.int .i64 0, .int .i64 1, .int .i64 4, .int .i64 2, .int .i64 3, .int .i64 5]) (.int .i64 0)).run Ybaz.prog W = .ok (.int .i64 0) W := by kernel_rfl
theorem index81_1 (W : World) : (Instr.index 81 (.agg #[.int .i64 0, .int .i64 1, .int .i64 4, .int .i64 2, .int .i64 3, .int .i64 5]) (.int .i64 1)).run Ybaz.prog W = .ok (.int .i64 1) W := by kernel_rfl
theorem index81_2 (W : World) : (Instr.index 81 (.agg #[.int .i64 0, .int .i64 1, .int .i64 4, .int .i64 2, .int .i64 3, .int .i64 5]) (.int .i64 2)).run Ybaz.prog W = .ok (.int .i64 4) W := by kernel_rfl
theorem index81_3 (W : World) : (Instr.index 81 (.agg #[.int .i64 0, .int .i64 1, .int .i64 4, .int .i64 2, .int .i64 3, .int .i64 5]) (.int .i64 3)).run Ybaz.prog W = .ok (.int .i64 2) W := by kernel_rfl
theorem index81_4 (W : World) : (Instr.index 81 (.agg #[.int .i64 0, .int .i64 1, .int .i64 4, .int .i64 2, .int .i64 3, .int .i64 5]) (.int .i64 4)).run Ybaz.prog W = .ok (.int .i64 3) W := by kernel_rfl
theorem index81_5 (W : World) : (Instr.index 81 (.agg #[.int .i64 0, .int .i64 1, .int .i64 4, .int .i64 2, .int .i64 3, .int .i64 5]) (.int .i64 5)).run Ybaz.prog W = .ok (.int .i64 5) W := by kernel_rfl
theorem index81 (j x : Nat) (h : ord[j]? = some x) (W : World) : (Instr.index 81 (.agg #[.int .i64 0, .int .i64 1, .int .i64 4, .int .i64 2, .int .i64 3, .int .i64 5]) (.int .i64 (j : Int))).run Ybaz.prog W = .ok (.int .i64 (x : Int)) W := by
  have hj : j < 6 := (List.getElem?_eq_some_iff.1 h).1
  obtain rfl | rfl | rfl | rfl | rfl | rfl : j = 0 ∨ j = 1 ∨ j = 2 ∨ j = 3 ∨ j = 4 ∨ j = 5 := by omega
  · obtain rfl : 0 = x := Option.some.inj h
    exact index81_0 W
  · obtain rfl : 1 = x := Option.some.inj h
    exact index81_1 W
  · obtain rfl : 4 = x := Option.some.inj h
    exact index81_2 W
  · obtain rfl : 2 = x := Option.some.inj h
    exact index81_3 W
  · obtain rfl : 3 = x := Option.some.inj h
    exact index81_4 W
  · obtain rfl : 5 = x := Option.some.inj h
    exact index81_5 W
/-- What the law wants. -/
def wantR (a : Nat → AL) (me n N q : Nat) (C : Nat → Bool) (hd : Nat) : Option Nat := if q ≤ hd then ord.find? (wok a me n N q C) else none

set_option linter.unusedSimpArgs false in
set_option maxRecDepth 1000000 in
set_option maxHeartbeats 16000000 in
theorem lawWant (w0 V : World) (m N T me k eb S mb bf g n cap cb hd : Nat) (gv phv : Value) (r : Option Nat) (E : Nat → El) (X : Nat → List Nat) (C : Nat → Bool) (hN : 1 ≤ N ∧ N ≤ 7) (hT : T < N) (hk : 1 ≤ k ∧ k ≤ 20) (hn : n ≤ 300)
    (hL : Left3 w0 V m N T me k eb S mb bf gv phv r) (hE : Lst V g n E X) (hC : ∀ i, i < 6 → V.cell? ⟨cb, i, none⟩ = some (.bool (C i))) (hr : r = wantR (als E X) me n N (N - T) C hd) {u0 u1 u2 u3 u4 u5 u6 u7 u8 u9 u10 u11 u12 u13 u18 u20 u21 u22 u23 u24 u25 u26 u27 u28 u29 u30 u31 u32 u34 u37 u38 u39 u40 u41 u43 u44 u45 u46 u47 u48 u49 u50 u51 u52 u53 u54 u55 u56 u57 u58 u59 u60 u61 u62 u63 u64 u65 u66 u67 u68 u69 u70 u71 u72 u73 u74 u75 u76 u77 u78 u79 u80 u81 u82 u83 u84 u85 u86 u87 u88 u89 u90 u91 u92 u93 u94 u95 u96 u97 u98 u99 u100 u101 u102 u103 u104 u105 u106 u107 u108 u109 u110 u111 u112 u113 u114 u115 u116 u117 u118 u119 u120 u121 u122 u123 u124 u125 u126 u127 u128 u129 u130 u131 u132 u133 u134 u135 u136 u137 u138 u139 u140 u141 u142 u143 u144 u145 u146 u147 u148 u149 u150 u151 u152 u153 u154 u155 u156 u157 u158 u159 u160 u161 u162 u163 u164 u165 u166 u167 u168 u169 u170 u171 u172 u173 u174 u175 u176 u177 u178 u179 u180 u181 u182 u183 u184 u185 u186 u187 u188 u189 u190 u191 u192 u193 u194 u195 u196 u197 u198 u199 u200 u201 u202 u203 u204 u205 u206 u207 u208 u209 u210 u211 u212 u213 u214 u215 u216 u217 u218 u219 u220 u221 u222 u223 u224 u225 u226 u227 u228 u229 u230 u231 u232 u233 u234 u235 u236 u237 u238 u239 u240 u241 u242 u243 u244 u245 u246 u247 u248 u249 u250 u251 u252 u253 u254 u255 u256 u257 u258 u259 u260 u261 u262 u263 u264 u265 u266 u267 u268 u269 u270 u271 u272 u273 u274 u275 u276 u277 u278 u279 u280 u281 u282 u283 u284 u285 u286 u287 u288 u289 u290 u291 u292 u293 u294 u295 u296 u297 u298 u299 u300 u301 u302 u303 u304 u305 u306 u307 u308 u309 u310 u311 u312 u313 u314 u315 u316 u317 u318 u319 u320 u321 u322 u323 u324 u325 u326 u327 u328 u329 u330 u331 u332 u333 u334 u335 u336 u337 u338 u339 u340 u341 u342 u343 u344 u345 u346 u347 u348 u349 u350 u351 u352 u353 u354 u355 u356 u357 u358 u359 u360 u361 u362 u363 : Value} :
    Code.wp Ybaz.prog law70 (bodyPost Ybaz.prog Ybaz.f3 (lawPost w0)) ⟨#[u0, u1, u2, u3, u4, u5, u6, u7, u8, u9, u10, u11, u12, u13, num N, num T, num me, num k, u18, .slice (some ⟨g, 0, none⟩) n cap, u20, u21, u22, u23, u24, u25, u26, u27, u28, u29, u30, u31, u32, ptr m, u34, ptr bf, ptr cb, u37, u38, u39, u40, u41, num hd, u43, u44, u45, u46, u47, u48, u49, u50, u51, u52, u53, u54, u55, u56, u57, u58, u59, u60, u61, u62, u63, u64, u65, u66, u67, u68, u69, u70, u71, u72, u73, u74, u75, u76, u77, u78, u79, u80, u81, u82, u83, u84, u85, u86, u87, u88, u89, u90, u91, u92, u93, u94, u95, u96, u97, u98, u99, u100, u101, u102, u103, u104, u105, u106, u107, u108, u109, u110, u111, u112, u113, u114, u115, u116, u117, u118, u119, u120, u121, u122, u123, u124, u125, u126, u127, u128, u129, u130, u131, u132, u133, u134, u135, u136, u137, u138, u139, u140, u141, u142, u143, u144, u145, u146, u147, u148, u149, u150, u151, u152, u153, u154, u155, u156, u157, u158, u159, u160, u161, u162, u163, u164, u165, u166, u167, u168, u169, u170, u171, u172, u173, u174, u175, u176, u177, u178, u179, u180, u181, u182, u183, u184, u185, u186, u187, u188, u189, u190, u191, u192, u193, u194, u195, u196, u197, u198, u199, u200, u201, u202, u203, u204, u205, u206, u207, u208, u209, u210, u211, u212, u213, u214, u215, u216, u217, u218, u219, u220, u221, u222, u223, u224, u225, u226, u227, u228, u229, u230, u231, u232, u233, u234, u235, u236, u237, u238, u239, u240, u241, u242, u243, u244, u245, u246, u247, u248, u249, u250, u251, u252, u253, u254, u255, u256, u257, u258, u259, u260, u261, u262, u263, u264, u265, u266, u267, u268, u269, u270, u271, u272, u273, u274, u275, u276, u277, u278, u279, u280, u281, u282, u283, u284, u285, u286, u287, u288, u289, u290, u291, u292, u293, u294, u295, u296, u297, u298, u299, u300, u301, u302, u303, u304, u305, u306, u307, u308, u309, u310, u311, u312, u313, u314, u315, u316, u317, u318, u319, u320, u321, u322, u323, u324, u325, u326, u327, u328, u329, u330, u331, u332, u333, u334, u335, u336, u337, u338, u339, u340, u341, u342, u343, u344, u345, u346, u347, u348, u349, u350, u351, u352, u353, u354, u355, u356, u357, u358, u359, u360, u361, u362, u363], []⟩ V := by
  have HL : Hid (Left3 w0 V m N T me k eb S mb bf gv phv r) := hL
  have HE : Hid (Lst V g n E X) := hE
  have HC : Hid (∀ i, i < 6 → V.cell? ⟨cb, i, none⟩ = some (.bool (C i))) := hC
  have HR : Hid (r = wantR (als E X) me n N (N - T) C hd) := hr
  have e1 : (N : Int) - (T : Int) = ((N - T : Nat) : Int) := by omega
  have e2 : IntKind.i64.wrap ((N - T : Nat) : Int) = ((N - T : Nat) : Int) := by rw [IntKind.wrap_i64]; omega
  clear hL hE hC hr
  conv => arg 2; whnf
  refine wp_seq_k (fun K0 hK0 => ?_)
  have H0 : Hid _ := hK0
  clear hK0
  go_wp2
  refine H0.out _ _ ?_
  refine wp_seq_k (fun K1 hK1 => ?_)
  have H1 : Hid _ := hK1
  clear hK1 H0
  by_cases hq : N - T ≤ hd
  · have d1 : decide (((N - T : Nat) : Int) ≤ (hd : Int)) = true := by simp; omega
    have hR : r = ord.find? (wok (als E X) me n N (N - T) C) := by rw [HR.out, wantR, if_pos hq]
    have HR2 : Hid _ := hR
    obtain ⟨q, hqe⟩ : ∃ q, N - T = q := ⟨_, rfl⟩
    rw [hqe] at d1 e1 e2 HR2 hq
    clear hR HR hqe
    go_upto_region 74 with fail
    generalize hV1 : World.alloc V _ = V1
    have HB : Hid (Below V.heap.size V V1) := by
      rw [← hV1]
      exact (Below.refl _ _).alloc (Nat.le_refl _) _
    clear hV1
    go_loopw [44, 267] (fun v44 v267 wr => ∃ j : Nat, j ≤ 6 ∧ v44 = .int .i64 (-1) ∧ v267 = num j ∧ (∀ t x, t < j → ord[t]? = some x → wok (als E X) me n N q C x = false) ∧ Below V.heap.size V wr) (fun _ v _ => 6 - (intOf v).toNat)
    case atStart => exact ⟨0, Nat.zero_le _, rfl, rfl, fun t x ht => absurd ht (Nat.not_lt_zero _), HB.out⟩
    case round =>
      obtain ⟨j, hj, rfl, rfl, hall, hBr⟩ := hrel
      have HA : Hid (∀ t x, t < j → ord[t]? = some x → wok (als E X) me n N q C x = false) := hall
      have HBr : Hid (Below V.heap.size V wr) := hBr
      clear hall hBr HB
      by_cases hlt : j < 6
      · have g1 : (j : Int) < 6 := by omega
        obtain ⟨x, hx⟩ : ∃ x, ord[j]? = some x := by
          have : j < ord.length := hlt
          exact ⟨ord[j], by simp⟩
        have hx6 : x < 6 := mem_ord.1 (List.mem_of_getElem? hx)
        have hidx := index81 j x hx
        have hCx := (HBr.out.cell (World.block_lt_of_cell? V _ (HC.out x hx6))).trans (HC.out x hx6)
        have hx6I : (x : Int) < 6 := by omega
        have Hx : Hid (ord[j]? = some x) := hx
        clear hx
        by_cases hgo : C x = true ∧ x ≠ 0 ∧ x ≠ 5
        · obtain ⟨h1, h2, h3⟩ := hgo
          rw [h1] at hCx
          have b0 : ((x : Int) == 0) = false := by simp; omega
          have b5 : ((x : Int) == 5) = false := by simp; omega
          have b0' : decide (x = 0) = false := by simp; omega
          have b5' : decide (x = 5) = false := by simp; omega
          have hwk : wok (als E X) me n N q C x = decide (q ≤ cntf (als E X) me x n N) := by simp [wok, h1, h2, h3]
          have Hwk : Hid _ := hwk
          clear hwk
          go_upto_region 79 with fail
          go_loopw [48, 49] (fun v48 v49 wq => ∃ F : Nat, F ≤ N ∧ v49 = num (F + 1) ∧ v48 = num (cntf (als E X) me x n F) ∧ Below V.heap.size V wq) (fun _ v _ => N + 1 - (intOf v).toNat)
          case atStart => exact ⟨0, Nat.zero_le _, rfl, rfl, HBr.out⟩
          case round =>
            obtain ⟨F, hF, rfl, rfl, hBq⟩ := hrel
            have hcl := cntf_le (als E X) me x n F
            have hcs : cntf (als E X) me x n (F + 1) = cntf (als E X) me x n F + if nmf (als E X) (F + 1) me x n then 1 else 0 := rfl
            by_cases hFN : F < N
            · have g2 : ((F + 1 : Nat) : Int) ≤ (N : Int) := by omega
              have HK : Hid (Calls Ybaz.prog 12 #[.slice (some ⟨g, 0, none⟩) n cap, num (F + 1), num me, num x] wr fun y w' => y = .returned (.bool (nmf (als E X) (F + 1) me x n)) ∧ Below wr.heap.size wr w') := nms_ok g n cap (F + 1) me x E X wr hn (HE.out.below hBq)
              generalize hc0 : cntf (als E X) me x n F = c at hcs hcl ⊢
              cases hb : nmf (als E X) (F + 1) me x n with
              | true =>
                rw [hb] at HK hcs
                have Hcs : Hid _ := hcs
                clear hcs
                go_wp2_with (go_at_call 12; refine HK.out.mono ?_; rintro y w1 ⟨rfl, hb1⟩)
                go_roundw
                case rel => exact ⟨F + 1, by omega, by simp, by rw [Hcs.out]; simp, hBq.trans (hb1.mono hBq.size)⟩
                case measure => simp [intOf]; omega
              | false =>
                rw [hb] at HK hcs
                have Hcs : Hid _ := hcs
                clear hcs
                go_wp2_with (go_at_call 12; refine HK.out.mono ?_; rintro y w1 ⟨rfl, hb1⟩)
                go_roundw
                case rel => exact ⟨F + 1, by omega, by simp, by rw [Hcs.out]; simp, hBq.trans (hb1.mono hBq.size)⟩
                case measure => simp [intOf]; omega
            · obtain rfl : F = N := by omega
              have g2 : ¬ ((F + 1 : Nat) : Int) ≤ (F : Int) := by omega
              clear hcs
              generalize hc0 : cntf (als E X) me x n F = c at hcl Hwk ⊢
              by_cases hok : q ≤ c
              · have d3 : decide ((q : Int) ≤ (c : Int)) = true := by simp; omega
                go_wp2_with fail
                refine H1.out _ _ (lawEnd w0 wr m F T me k eb S mb bf gv phv _ r hk (HL.out.below hBq) ?_ ?_)
                · intro h
                  have hf := find_first ord j x (wok (als E X) me n F q C) Hx.out (by rw [Hwk.out]; simp [hok]) (fun t ht y hy => HA.out t y ht hy)
                  rw [HR2.out, hf] at h
                  cases h
                · intro t ht
                  have hf := find_first ord j x (wok (als E X) me n F q C) Hx.out (by rw [Hwk.out]; simp [hok]) (fun t ht y hy => HA.out t y ht hy)
                  rw [HR2.out, hf] at ht
                  cases ht
                  rfl
              · have d3 : decide ((q : Int) ≤ (c : Int)) = false := by simp; omega
                go_wp2_with fail
                go_roundw
                case rel =>
                  refine ⟨j + 1, by omega, rfl, by simp, ?_, hBq⟩
                  intro t y ht hy
                  by_cases e : t = j
                  · subst e
                    rw [Hx.out] at hy
                    cases hy
                    rw [Hwk.out]
                    simp
                    omega
                  · exact HA.out t y (by omega) hy
                case measure => simp [intOf]; omega
        · have hwk : wok (als E X) me n N q C x = false := by
            unfold wok
            cases hc : C x
            · rfl
            · by_cases h2 : x = 0
              · simp [h2]
              · by_cases h3 : x = 5
                · simp [h3]
                · exact absurd ⟨hc, h2, h3⟩ hgo
          have Hwk : Hid _ := hwk
          clear hwk
          have hrel' : ∀ t y, t < j + 1 → ord[t]? = some y → wok (als E X) me n N q C y = false := by
            intro t y ht hy
            by_cases e : t = j
            · subst e
              rw [Hx.out] at hy
              cases hy
              exact Hwk.out
            · exact HA.out t y (by omega) hy
          have HRl : Hid _ := hrel'
          clear hrel'
          cases hc : C x with
          | false =>
            rw [hc] at hCx
            clear hgo
            go_wp2_with fail
            go_roundw
            case rel => exact ⟨j + 1, by omega, rfl, by simp, HRl.out, HBr.out⟩
            case measure => simp [intOf]; omega
          | true =>
            rw [hc] at hCx
            by_cases h2 : x = 0
            · have b0 : ((x : Int) == 0) = true := by simp; omega
              have b0' : decide (x = 0) = true := by simp; omega
              have Hz : Hid _ := h2
              clear hgo h2
              go_wp2_with fail
              go_roundw
              case rel => exact ⟨j + 1, by omega, rfl, by simp, HRl.out, HBr.out⟩
              case measure => simp [intOf]; omega
            · have h3 : x = 5 := by
                by_cases h3 : x = 5
                · exact h3
                · exact absurd ⟨hc, h2, h3⟩ hgo
              have b0 : ((x : Int) == 0) = false := by simp; omega
              have b0' : decide (x = 0) = false := by simp; omega
              have b5 : ((x : Int) == 5) = true := by simp; omega
              have b5' : decide (x = 5) = true := by simp; omega
              have Hz : Hid _ := h3
              clear hgo h3
              go_wp2_with fail
              go_roundw
              case rel => exact ⟨j + 1, by omega, rfl, by simp, HRl.out, HBr.out⟩
              case measure => simp [intOf]; omega
      · obtain rfl : j = 6 := by omega
        go_wp2_with fail
        refine H1.out _ _ (lawEnd w0 wr m N T me k eb S mb bf gv phv _ r hk (HL.out.below HBr.out) ?_ ?_)
        · intro _; rfl
        · intro t ht
          have h := HR2.out
          rw [ht] at h
          have h1 := List.find?_some h.symm
          have h2 := List.mem_of_find?_eq_some h.symm
          obtain ⟨i, hi, e⟩ := List.mem_iff_getElem.1 h2
          have h3 := HA.out i t hi (by rw [List.getElem?_eq_getElem hi, e])
          rw [h3] at h1
          cases h1
  · have d1 : decide (((N - T : Nat) : Int) ≤ (hd : Int)) = false := by simp; omega
    have hR : r = none := by rw [HR.out, wantR, if_neg hq]
    go_wp2_with fail
    exact H1.out _ _ (lawEnd w0 V m N T me k eb S mb bf gv phv _ r hk HL.out (fun _ => rfl) (fun t ht => by rw [hR] at ht; cases ht))
end Propose
end Go.Proofs.YbulkcrfgGreatFmt
