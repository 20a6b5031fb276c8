/-
  LawS4647BPropose: the numbers; the law whole.
-/
import Derived.Test.YbulkcrfgGreatFmtMk
import Derived.Test.YbulkcrfgGreatFmtPlain
namespace Go.Proofs.YbulkcrfgGreatFmt
open Go.RowKit
namespace Propose
open Kit Arg

set_option linter.unusedSimpArgs false in
set_option maxRecDepth 1000000 in
set_option maxHeartbeats 16000000 in
theorem lawNum (Fi : Go.Stop.Interp) (w0 V : World) (a0 a1 a2 a3 a4 n capr : Nat) (ao : Option Addr) (o : Nat → Rl) (b0 : a0 < 256) (b1 : a1 < 256) (b2 : a2 < 256) (b3 : a3 < 256) (b4 : a4 < 256) (hF : Fi.answers V.tape) (hn : n ≤ 300)
    (hR : Raw V ao n o) (hvn : ∀ i, i < n → (o i).vn ≤ 300) (hB : Below w0.heap.size w0 V) {u6 u7 u8 u9 u10 u11 u12 u13 u14 u15 u16 u17 u18 u19 u20 u21 u22 u23 u24 u25 u26 u27 u28 u29 u30 u31 u32 u33 u34 u35 u36 u37 u38 u39 u40 u41 u42 u43 u44 u45 u46 u47 u48 u49 u50 u51 u52 u53 u54 u55 u56 u57 u58 u59 u60 u61 u62 u63 u64 u65 u66 u67 u68 u69 u70 u71 u72 u73 u74 u75 u76 u77 u78 u79 u80 u81 u82 u83 u84 u85 u86 u87 u88 u89 u90 u91 u92 u93 u94 u95 u96 u97 u98 u99 u100 u101 u102 u103 u104 u105 u106 u107 u108 u109 u110 u111 u112 u113 u114 u115 u116 u117 u118 u119 u120 u121 u122 u123 u124 u125 u126 u127 u128 u129 u130 u131 u132 u133 u134 u135 u136 u137 u138 u139 u140 u141 u142 u143 u144 u145 u146 u147 u148 u149 u150 u151 u152 u153 u154 u155 u156 u157 u158 u159 u160 u161 u162 u163 u164 u165 u166 u167 u168 u169 u170 u171 u172 u173 u174 u175 u176 u177 u178 u179 u180 u181 u182 u183 u184 u185 u186 u187 u188 u189 u190 u191 u192 u193 u194 u195 u196 u197 u198 u199 u200 u201 u202 u203 u204 u205 u206 u207 u208 u209 u210 u211 u212 u213 u214 u215 u216 u217 u218 u219 u220 u221 u222 u223 u224 u225 u226 u227 u228 u229 u230 u231 u232 u233 u234 u235 u236 u237 u238 u239 u240 u241 u242 u243 u244 u245 u246 u247 u248 u249 u250 u251 u252 u253 u254 u255 u256 u257 u258 u259 u260 u261 u262 u263 u264 u265 u266 u267 u268 u269 u270 u271 u272 u273 u274 u275 u276 u277 u278 u279 u280 u281 u282 u283 u284 u285 u286 u287 u288 u289 u290 u291 u292 u293 u294 u295 u296 u297 u298 u299 u300 u301 u302 u303 u304 u305 u306 u307 u308 u309 u310 u311 u312 u313 u314 u315 u316 u317 u318 u319 u320 u321 u322 u323 u324 u325 u326 u327 u328 u329 u330 u331 u332 u333 u334 u335 u336 u337 u338 u339 u340 u341 u342 u343 u344 u345 u346 u347 u348 u349 u350 u351 u352 u353 u354 u355 u356 u357 u358 u359 u360 u361 u362 u363 : Value} :
    Code.wp Ybaz.prog law9 (bodyPost Ybaz.prog Ybaz.f3 (lawPost w0)) ⟨#[.int .u8 (a0 : Int), .int .u8 (a1 : Int), .int .u8 (a2 : Int), .int .u8 (a3 : Int), .int .u8 (a4 : Int), .slice ao n capr, u6, u7, u8, u9, u10, u11, u12, u13, u14, u15, u16, u17, u18, u19, u20, u21, u22, u23, u24, u25, u26, u27, u28, u29, u30, u31, u32, u33, u34, u35, u36, u37, u38, u39, u40, u41, u42, u43, u44, u45, u46, u47, u48, u49, u50, u51, u52, u53, u54, u55, u56, u57, u58, u59, u60, u61, u62, u63, u64, u65, u66, u67, u68, u69, u70, u71, u72, u73, u74, u75, u76, u77, u78, u79, u80, u81, u82, u83, u84, u85, u86, u87, u88, u89, u90, u91, u92, u93, u94, u95, u96, u97, u98, u99, u100, u101, u102, u103, u104, u105, u106, u107, u108, u109, u110, u111, u112, u113, u114, u115, u116, u117, u118, u119, u120, u121, u122, u123, u124, u125, u126, u127, u128, u129, u130, u131, u132, u133, u134, u135, u136, u137, u138, u139, u140, u141, u142, u143, u144, u145, u146, u147, u148, u149, u150, u151, u152, u153, u154, u155, u156, u157, u158, u159, u160, u161, u162, u163, u164, u165, u166, u167, u168, u169, u170, u171, u172, u173, u174, u175, u176, u177, u178, u179, u180, u181, u182, u183, u184, u185, u186, u187, u188, u189, u190, u191, u192, u193, u194, u195, u196, u197, u198, u199, u200, u201, u202, u203, u204, u205, u206, u207, u208, u209, u210, u211, u212, u213, u214, u215, u216, u217, u218, u219, u220, u221, u222, u223, u224, u225, u226, u227, u228, u229, u230, u231, u232, u233, u234, u235, u236, u237, u238, u239, u240, u241, u242, u243, u244, u245, u246, u247, u248, u249, u250, u251, u252, u253, u254, u255, u256, u257, u258, u259, u260, u261, u262, u263, u264, u265, u266, u267, u268, u269, u270, u271, u272, u273, u274, u275, u276, u277, u278, u279, u280, u281, u282, u283, u284, u285, u286, u287, u288, u289, u290, u291, u292, u293, u294, u295, u296, u297, u298, u299, u300, u301, u302, u303, u304, u305, u306, u307, u308, u309, u310, u311, u312, u313, u314, u315, u316, u317, u318, u319, u320, u321, u322, u323, u324, u325, u326, u327, u328, u329, u330, u331, u332, u333, u334, u335, u336, u337, u338, u339, u340, u341, u342, u343, u344, u345, u346, u347, u348, u349, u350, u351, u352, u353, u354, u355, u356, u357, u358, u359, u360, u361, u362, u363], []⟩ V := by
  have HG : Hid (Fi.answers V.tape ∧ Raw V ao n o ∧ Below w0.heap.size w0 V ∧ ∀ i, i < n → (o i).vn ≤ 300) := ⟨hF, hR, hB, hvn⟩
  clear hF hR hB hvn
  obtain ⟨p0, hp0⟩ : ∃ p, p = a0 % 7 := ⟨_, rfl⟩
  obtain ⟨N, hNe⟩ : ∃ N, N = 1 + p0 := ⟨_, rfl⟩
  obtain ⟨M, hM⟩ : ∃ M, M = N + 1 := ⟨_, rfl⟩
  obtain ⟨h, hh⟩ : ∃ h, h = M / 2 := ⟨_, rfl⟩
  obtain ⟨T, hT⟩ : ∃ T, T = a1 % h := ⟨_, rfl⟩
  obtain ⟨p2, hp2⟩ : ∃ p, p = a2 % N := ⟨_, rfl⟩
  obtain ⟨me, hme⟩ : ∃ me, me = 1 + p2 := ⟨_, rfl⟩
  obtain ⟨p3, hp3⟩ : ∃ p, p = a3 % 20 := ⟨_, rfl⟩
  obtain ⟨k, hk⟩ : ∃ k, k = 1 + p3 := ⟨_, rfl⟩
  obtain ⟨p4, hp4⟩ : ∃ p, p = a4 % 4 := ⟨_, rfl⟩
  obtain ⟨v0, hv⟩ : ∃ v, v = 1 + p4 := ⟨_, rfl⟩
  have hN7 : 1 ≤ N ∧ N ≤ 7 := by omega
  have hh1 : 1 ≤ h ∧ h ≤ N := by omega
  have hTl : T < h := by rw [hT]; exact Nat.mod_lt _ (by omega)
  have hp2l : p2 < N := by rw [hp2]; exact Nat.mod_lt _ (by omega)
  have hk20 : 1 ≤ k ∧ k ≤ 20 := by omega
  have hv4 : 1 ≤ v0 ∧ v0 ≤ 4 := by omega
  have hmeN : 1 ≤ me ∧ me ≤ N := by omega
  have x1 : (a0 : Int) % 7 = (p0 : Int) := by omega
  have x2 : (1 : Int) + (p0 : Int) = (N : Int) := by omega
  have x3 : (N : Int) + 1 = (M : Int) := by omega
  have x4 : (M : Int) / 2 = (h : Int) := by omega
  have x5 : (a1 : Int) % (h : Int) = (T : Int) := by rw [hT]; rfl
  have x6 : (a2 : Int) % (N : Int) = (p2 : Int) := by rw [hp2]; rfl
  have x7 : (1 : Int) + (p2 : Int) = (me : Int) := by omega
  have x8 : (a3 : Int) % 20 = (p3 : Int) := by omega
  have x9 : (1 : Int) + (p3 : Int) = (k : Int) := by omega
  have x10 : (a4 : Int) % 4 = (p4 : Int) := by omega
  have x11 : (1 : Int) + (p4 : Int) = (v0 : Int) := by omega
  have t1 : (a0 : Int).tmod 7 = (p0 : Int) := by rw [hp0]; exact (Int.ofNat_tmod a0 7).symm
  have t4 : (M : Int).tdiv 2 = (h : Int) := by rw [hh]; exact (Int.ofNat_tdiv M 2).symm
  have t5 : (a1 : Int).tmod (h : Int) = (T : Int) := by rw [hT]; exact (Int.ofNat_tmod a1 h).symm
  have t6 : (a2 : Int).tmod (N : Int) = (p2 : Int) := by rw [hp2]; exact (Int.ofNat_tmod a2 N).symm
  have wr : ∀ z : Nat, z < 1000 → IntKind.i64.wrap (z : Int) = (z : Int) := fun z hz => by rw [IntKind.wrap_i64]; omega
  have y0 := wr a0 (by omega)
  have y1 := wr a1 (by omega)
  have y2 := wr a2 (by omega)
  have y3 := wr a3 (by omega)
  have y4 := wr a4 (by omega)
  have z0 := wr p0 (by omega)
  have z1 := wr N (by omega)
  have z2 := wr M (by omega)
  have z3 := wr h (by omega)
  have z4 := wr T (by omega)
  have z5 := wr p2 (by omega)
  have z6 := wr me (by omega)
  have z7 := wr p3 (by omega)
  have z8 := wr k (by omega)
  have z9 := wr p4 (by omega)
  have z10 := wr v0 (by omega)
  have n1 : ¬ (N : Int) = 0 := by omega
  have n2 : ((N : Int) == 0) = false := by simp; omega
  have n3 : ¬ N = 0 := by omega
  have n4 : ¬ (h : Int) = 0 := by omega
  have n5 : ((h : Int) == 0) = false := by simp; omega
  have n6 : ¬ h = 0 := by omega
  have HT : Hid (T < N) := by
    show T < N
    omega
  clear hp0 hNe hM hh hT hp2 hme hp3 hk hp4 hv wr
  conv => arg 2; whnf
  refine wp_seq_k (fun K0 hK0 => ?_)
  have H0 : Hid _ := hK0
  clear hK0
  go_wp2_with fail
  refine H0.out _ _ (wp_seq_k (fun K1 hK1 => ?_))
  have H1 : Hid _ := hK1
  clear hK1 H0
  go_wp2_with fail
  refine H1.out _ _ (wp_seq_k (fun K2 hK2 => ?_))
  have H2 : Hid _ := hK2
  clear hK2 H1
  go_wp2_with fail
  refine H2.out _ _ (wp_seq_k (fun K3 hK3 => ?_))
  have H3 : Hid _ := hK3
  clear hK3 H2
  go_wp2_with fail
  refine H3.out _ _ (wp_seq_k (fun K4 hK4 => ?_))
  have H4 : Hid _ := hK4
  clear hK4 H3
  go_wp2_with fail
  exact H4.out _ _ (lawMake Fi w0 V N T me k v0 n capr ao o HG.out.1 hN7 HT.out hmeN hk20 hn hv4 HG.out.2.1 HG.out.2.2.2 HG.out.2.2.1 (fun E X hS hf _ => plain (als E X) me n N (N - T) _ (fun i j h1 h2 => hS i j (Nat.zero_le _) h1 h2) hf))

set_option linter.unusedSimpArgs false in
set_option maxRecDepth 1000000 in
set_option maxHeartbeats 16000000 in
/-- **The law, whatever it is given.** -/
theorem law_ok (Fi : Go.Stop.Interp) (w : World) (a0 a1 a2 a3 a4 n capr : Nat) (ao : Option Addr) (o : Nat → Rl) (b0 : a0 < 256) (b1 : a1 < 256) (b2 : a2 < 256) (b3 : a3 < 256) (b4 : a4 < 256) (hF : Fi.answers w.tape) (hR : Raw w ao n o) :
    Calls Ybaz.prog 3 #[.int .u8 (a0 : Int), .int .u8 (a1 : Int), .int .u8 (a2 : Int), .int .u8 (a3 : Int), .int .u8 (a4 : Int), .slice ao n capr] w (lawPost w) := by
  have HG : Hid (Fi.answers w.tape ∧ Raw w ao n o) := ⟨hF, hR⟩
  clear hF hR
  by_cases hn : n ≤ 300
  · have d0 : decide ((300 : Int) < (n : Int)) = false := by simp; omega
    go_enter Ybaz.func3, Ybaz.ntmps3
    refine wp_seq_k (fun K0 hK0 => ?_)
    have H0 : Hid _ := hK0
    clear hK0
    go_wp2_with fail
    refine H0.out _ _ (wp_seq_k (fun K1 hK1 => ?_))
    have H1 : Hid _ := hK1
    clear hK1 H0
    go_wp2_with fail
    refine H1.out _ _ (wp_seq_k (fun K2 hK2 => ?_))
    have H3 : Hid _ := hK2
    clear hK2 H1
    go_upto_region 4 with fail
    go_loopw [58] (fun v58 wr => ∃ i : Nat, i ≤ n ∧ v58 = num i ∧ (∀ j, j < i → (o j).vn ≤ 300) ∧ wr = w) (fun v _ => n - (intOf v).toNat)
    case atStart => exact ⟨0, Nat.zero_le _, rfl, fun j hj => absurd hj (Nat.not_lt_zero _), rfl⟩
    case round =>
      obtain ⟨i, hi, rfl, hall, rfl⟩ := hrel
      have HA : Hid _ := hall
      clear hall
      by_cases hlt : i < n
      · have g1 : (i : Int) < (n : Int) := by omega
        obtain ⟨b, off, hao, hbl, hc⟩ := HG.out.2.2 (by omega)
        have c2 := (hc i hlt).2.2.1
        clear hc
        rw [hao]
        by_cases h3 : (o i).vn ≤ 300
        · have d1 : decide ((300 : Int) < ((o i).vn : Int)) = false := by simp; omega
          go_wp2_with fail
          go_roundw
          case rel =>
            refine ⟨i + 1, by omega, by simp, fun j hj => ?_, trivial⟩
            by_cases e : j = i
            · subst e; exact h3
            · exact HA.out j (by omega)
          case measure => simp [intOf]; omega
        · have d1 : decide ((300 : Int) < ((o i).vn : Int)) = true := by simp; omega
          go_wp2_with fail
          go_ret
          exact ⟨rfl, Below.refl _ _⟩
      · obtain rfl : i = n := by omega
        go_wp2_with fail
        exact H3.out _ _ (lawNum Fi wr wr a0 a1 a2 a3 a4 i capr ao o b0 b1 b2 b3 b4 HG.out.1 hn HG.out.2 HA.out (Below.refl _ _))
  · have d0 : decide ((300 : Int) < (n : Int)) = true := by simp; omega
    go_enter Ybaz.func3, Ybaz.ntmps3
    go_wp2_with fail
    go_ret
    exact ⟨rfl, Below.refl _ _⟩
end Propose
end Go.Proofs.YbulkcrfgGreatFmt
