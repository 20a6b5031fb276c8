/-
  LawS4660CFollow: what stands behind the making of r's fresh set (region 20), as a declaration of its own.
-/
import Derived.Test.YbulkcrmgDoorPhases
namespace Go.Proofs.YbulkcrmgDoor
open Go.RowKit
namespace Follow
open Kit

theorem chg_of {S : List Nat × List Nat × Bool} {ps : List (Nat × Nat)} {q ad : Bool} (h1 : S.2.2 = q) (h2 : (after S ps).2.2 = (q || ad)) (cs : List Value) (r : Nat) : chg S ps cs r = more (!q && ad) cs (ptr r) := by
  unfold chg
  rw [h1, h2]
  cases q <;> cases ad <;> rfl

/-- What is left of a code behind its region k. -/
def tl (k : Nat) : Code → Option (Option Code)
  | .region i _ _ => if i = k then some none else none
  | .seq a b => match tl k a with
    | some none => some (some b)
    | some (some c) => some (some (.seq c b))
    | none => tl k b
  | _ => none
noncomputable def tail20 : Code := match Ybad.f3.body.bind (tl 20) with | some (some c) => c | _ => .skip

set_option maxRecDepth 1000000 in
set_option maxHeartbeats 8000000 in
theorem tail_ok {aF aA aB aH aC : Option Addr} {n cF lA cA lB cB lH cH lC cC : Nat} {fF fA fB fH fC : Nat → Nat} {qA qB qH qR : Bool} {w W : World} {B Z : Nat} {a' a2 : Option Addr} {c' c2 : Nat} {oc rc : List Value} {u9 u10 u11 u12 u13 u14 u15 u16 u17 u29 u31 u32 u33 u34 u35 u36 u37 u38 u39 u40 u41 u42 u43 u44 u45 u46 u47 u48 u49 u50 u51 u52 u53 u54 u55 u56 u57 u58 u59 u60 u61 u62 u63 u64 u65 u66 u67 u68 u69 u70 u71 u72 u73 u74 u75 u76 u77 u78 u79 u80 u81 u82 u83 u84 u85 u86 u87 u88 u89 u90 u91 u92 u93 u94 u95 u96 u97 u98 u99 u100 u101 u102 u103 u104 u105 u106 u107 u108 u109 u110 u111 u112 u113 u114 u115 u116 u117 u118 u119 u120 u121 u122 u123 u124 u125 u126 u127 u128 u129 u130 u131 u132 u133 u134 u135 u136 u137 u138 u139 u140 u141 u142 u143 u144 u145 u146 u147 u148 u149 u150 u151 u152 u153 u154 u155 u156 u157 u158 u159 u160 u161 u162 u163 u164 u165 u166 u167 u168 u169 u170 u171 u172 u173 u174 u175 u176 u177 u178 u179 u180 u181 u182 u183 u184 u185 u186 u187 u188 u189 u190 u191 u192 u193 u194 u195 u196 u197 u198 u199 u200 u201 u202 u203 u204 u205 u206 u207 u208 u209 u210 u211 u212 u213 u214 u215 u216 u217 u218 u219 u220 u221 u222 u223 u224 u225 u226 u227 u228 u229 u230 u231 u232 u233 u234 u235 u236 u237 u238 u239 u240 u241 u242 u243 u244 u245 u246 u247 u248 u249 u250 u251 u252 u253 u254 u255 u256 u257 u258 u259 u260 u261 u262 u263 u264 u265 u266 u267 u268 u269 u270 u271 u272 u273 u274 u275 u276 u277 u278 u279 u280 u281 u282 u283 u284 u285 u286 u287 u288 u289 u290 u291 u292 u293 u294 u295 u296 u297 u298 u299 u300 u301 u302 u303 u304 u305 u306 u307 u308 u309 u310 u311 u312 u313 u314 u315 u316 u317 u318 u319 u320 u321 u322 u323 u324 u325 u326 u327 u328 u329 u330 u331 u332 u333 u334 u335 u336 u337 u338 u339 u340 u341 u342 u343 u344 u345 u346 u347 u348 u349 : Value}
    (hn : n ≤ 512) (hlC : lC ≤ 1024) (hc2 : c2 ≤ 1024)
    (bF : ∀ i, fF i < 18446744073709551616) (bA : ∀ i, fA i < 18446744073709551616) (bB : ∀ i, fB i < 18446744073709551616) (bH : ∀ i, fH i < 18446744073709551616) (bC : ∀ i, fC i < 18446744073709551616) (rC : Reads B w aC lC fC) (nC : aC = none → lC = 0)
    (hQ : Q1 W B Z n ((List.range n).map (m0 lA fA), (List.range n).map (fun _ => 9223372036854775808), qA) ((List.range n).map (m0 lB fB), (List.range n).map (fun _ => 9223372036854775808), qB) ((List.range n).map (m0 lH fH), (List.range n).map (fun _ => 9223372036854775808), qH) (m0 lA fA) (m0 lB fB) (m0 lH fH) oc a' lC fC)
    (hwF : Row W (Z + 3) 36 (((List.range n).map fF).map u)) (hwI : Row W (Z + 4) 36 (((List.range n).map (fun j => fF j &&& wd lC fC j)).map u)) (hrr : Row W (Z + 5) 34 rc) (kl : rc.length = 16) (k8 : rc[8]? = some (.map none)) (k9 : rc[9]? = some (.slice a2 n c2)) (k10 : rc[10]? = some (.int .i64 0)) (k11 : rc[11]? = some (.int .i64 0)) (k12 : rc[12]? = some (.bool qR)) (k13 : rc[13]? = some (.slice none 0 0)) (k14 : rc[14]? = some (.slice none 0 0)) (k15 : rc[15]? = some (.slice none 0 0))
    (sF : Src W (Z + 6) a2 n fF) (o4 : oc[4]? = some (.map none)) (o5 : oc[5]? = some (.slice a' lC c')) (o9 : oc[9]? = some (.slice none 0 0)) (o12 : oc[12]? = some (.bool false)) (hW : Below B w W) (hz : Z + 6 ≤ W.heap.size) :
    Code.wp Ybad.prog tail20 (bodyPost Ybad.prog Ybad.f3 (fun e w' => e = .returned (.bool true) ∧ Below B w w')) ⟨#[.slice aF n cF, .slice aA lA cA, .slice aB lB cB, .slice aH lH cH, .slice aC lC cC, .bool qA, .bool qB, .bool qH, .bool qR, u9, u10, u11, u12, u13, u14, u15, u16, u17, .bool false, .int .i64 n, ptr B, ptr (B + 3), ptr (B + 6), ptr (B + 9), dn Z n, dn (Z + 1) n, dn (Z + 2) n, dn (Z + 3) n, dn (Z + 4) n, u29, ptr (Z + 5), u31, u32, u33, u34, u35, u36, u37, u38, u39, u40, u41, u42, u43, u44, u45, u46, u47, u48, u49, u50, u51, u52, u53, u54, u55, u56, u57, u58, u59, u60, u61, u62, u63, u64, u65, u66, u67, u68, u69, u70, u71, u72, u73, u74, u75, u76, u77, u78, u79, u80, u81, u82, u83, u84, u85, u86, u87, u88, u89, u90, u91, u92, u93, u94, u95, u96, u97, u98, u99, u100, u101, u102, u103, u104, u105, u106, u107, u108, u109, u110, u111, u112, u113, u114, u115, u116, u117, u118, u119, u120, u121, u122, u123, u124, u125, u126, u127, u128, u129, u130, u131, u132, u133, u134, u135, u136, u137, u138, u139, u140, u141, u142, u143, u144, u145, u146, u147, u148, u149, u150, u151, u152, u153, u154, u155, u156, u157, u158, u159, u160, u161, u162, u163, u164, u165, u166, u167, u168, u169, u170, u171, u172, u173, u174, u175, u176, u177, u178, u179, u180, u181, u182, u183, u184, u185, u186, u187, u188, u189, u190, u191, u192, u193, u194, u195, u196, u197, u198, u199, u200, u201, u202, u203, u204, u205, u206, u207, u208, u209, u210, u211, u212, u213, u214, u215, u216, u217, u218, u219, u220, u221, u222, u223, u224, u225, u226, u227, u228, u229, u230, u231, u232, u233, u234, u235, u236, u237, u238, u239, u240, u241, u242, u243, u244, u245, u246, u247, u248, u249, u250, u251, u252, u253, u254, u255, u256, u257, u258, u259, u260, u261, u262, u263, u264, u265, u266, u267, u268, u269, u270, u271, u272, u273, u274, u275, u276, u277, u278, u279, u280, u281, u282, u283, u284, u285, u286, u287, u288, u289, u290, u291, u292, u293, u294, u295, u296, u297, u298, u299, u300, u301, u302, u303, u304, u305, u306, u307, u308, u309, u310, u311, u312, u313, u314, u315, u316, u317, u318, u319, u320, u321, u322, u323, u324, u325, u326, u327, u328, u329, u330, u331, u332, u333, u334, u335, u336, u337, u338, u339, u340, u341, u342, u343, u344, u345, u346, u347, u348, u349], []⟩ W := by
  have hbz := hQ.bz
  obtain ⟨Y, hY⟩ : ∃ Y, W.heap.size = Y := ⟨_, rfl⟩
  have HB : Hid ((∀ i, fF i < 18446744073709551616) ∧ (∀ i, fA i < 18446744073709551616) ∧ (∀ i, fB i < 18446744073709551616) ∧ (∀ i, fH i < 18446744073709551616) ∧ (∀ i, fC i < 18446744073709551616)) := ⟨bF, bA, bB, bH, bC⟩
  have HR : Hid (Reads B w aC lC fC ∧ (aC = none → lC = 0)) := ⟨rC, nC⟩
  have hF21 : Fr [Z + 5] (.slice none 0 0) (.slice none 0 0) W ((W.alloc (.cells #[ptr B, ptr (B + 3)] 23)).setCell ⟨Z + 5, 13, none⟩ (.slice (some ⟨Y, 0, none⟩) 2 2)) := (Fr.alloc _ _).trans (Fr.setCell _ _ _ _ (by simp))
  have hB21 : Below (Z + 5) W ((W.alloc (.cells #[ptr B, ptr (B + 3)] 23)).setCell ⟨Z + 5, 13, none⟩ (.slice (some ⟨Y, 0, none⟩) 2 2)) := ((Below.refl (Z + 5) W).alloc (by omega) _).setCell (p := ⟨Z + 5, 13, none⟩) (Nat.le_refl _) _
  have r21 := (hrr.alloc (.cells #[ptr B, ptr (B + 3)] 23)).set 13 (.slice (some ⟨Y, 0, none⟩) 2 2)
  have i21 := (Row.new W 23 [ptr B, ptr (B + 3)] Y hY.symm).setOther ⟨Z + 5, 13, none⟩ (.slice (some ⟨Y, 0, none⟩) 2 2) (by show Y ≠ Z + 5; omega)
  have s21 : ((W.alloc (.cells #[ptr B, ptr (B + 3)] 23)).setCell ⟨Z + 5, 13, none⟩ (.slice (some ⟨Y, 0, none⟩) 2 2)).heap.size = Y + 1 := by rw [((Only.refl (Z + 5) (W.alloc (.cells #[ptr B, ptr (B + 3)] 23))).setCell 13 _).size]; simp [hY]
  have c13 := ((hrr.alloc (.cells #[ptr B, ptr (B + 3)] 23)).cell 13).trans k13
  have f13 := (hrr.alloc (.cells #[ptr B, ptr (B + 3)] 23)).frozen 13
  have HQ : Hid (Q1 W B Z n ((List.range n).map (m0 lA fA), (List.range n).map (fun _ => 9223372036854775808), qA) ((List.range n).map (m0 lB fB), (List.range n).map (fun _ => 9223372036854775808), qB) ((List.range n).map (m0 lH fH), (List.range n).map (fun _ => 9223372036854775808), qH) (m0 lA fA) (m0 lB fB) (m0 lH fH) oc a' lC fC ∧ Row W (Z + 3) 36 (((List.range n).map fF).map u) ∧ Row W (Z + 4) 36 (((List.range n).map (fun j => fF j &&& wd lC fC j)).map u) ∧ Src W (Z + 6) a2 n fF ∧ Below B w W) := ⟨hQ, hwF, hwI, sF, hW⟩
  clear bF bA bB bH bC rC nC hQ hwF hwI sF hW hrr
  conv => arg 2; whnf
  go_upto_region 22 with fail
  generalize hV1 : World.setCell _ _ _ = V1 at hF21 hB21 r21 i21 s21 ⊢
  clear hV1 c13 f13
  have hF22 : Fr [Z + 5] (.slice none 0 0) (.slice none 0 0) W ((V1.alloc (.cells #[ptr (B + 6), ptr (B + 9)] 39)).setCell ⟨Z + 5, 15, none⟩ (.slice (some ⟨Y + 1, 0, none⟩) 1 1)) := hF21.trans ((Fr.alloc _ _).trans (Fr.setCell _ _ _ _ (by simp)))
  have hB22 : Below (Z + 5) W ((V1.alloc (.cells #[ptr (B + 6), ptr (B + 9)] 39)).setCell ⟨Z + 5, 15, none⟩ (.slice (some ⟨Y + 1, 0, none⟩) 1 1)) := (hB21.alloc (by omega) _).setCell (p := ⟨Z + 5, 15, none⟩) (Nat.le_refl _) _
  have r22 := (r21.alloc (.cells #[ptr (B + 6), ptr (B + 9)] 39)).set 15 (.slice (some ⟨Y + 1, 0, none⟩) 1 1)
  have i22 := (i21.alloc (.cells #[ptr (B + 6), ptr (B + 9)] 39)).setOther ⟨Z + 5, 15, none⟩ (.slice (some ⟨Y + 1, 0, none⟩) 1 1) (by show Y ≠ Z + 5; omega)
  have x22 := (Row.new V1 39 [ptr (B + 6), ptr (B + 9)] (Y + 1) s21.symm).setOther ⟨Z + 5, 15, none⟩ (.slice (some ⟨Y + 1, 0, none⟩) 1 1) (by show Y + 1 ≠ Z + 5; omega)
  have s22 : ((V1.alloc (.cells #[ptr (B + 6), ptr (B + 9)] 39)).setCell ⟨Z + 5, 15, none⟩ (.slice (some ⟨Y + 1, 0, none⟩) 1 1)).heap.size = Y + 2 := by rw [((Only.refl (Z + 5) (V1.alloc (.cells #[ptr (B + 6), ptr (B + 9)] 39))).setCell 15 _).size]; simp [s21]
  have c15 : (V1.alloc (.cells #[ptr (B + 6), ptr (B + 9)] 39)).cell? ⟨Z + 5, 15, none⟩ = some (.slice none 0 0) := ((r21.alloc (.cells #[ptr (B + 6), ptr (B + 9)] 39)).cell 15).trans (by simp [k15])
  have f15 := (r21.alloc (.cells #[ptr (B + 6), ptr (B + 9)] 39)).frozen 15
  clear hF21 hB21 r21 i21
  go_upto_region 23 with fail
  generalize hV2 : World.setCell _ _ _ = V2 at hF22 hB22 r22 i22 x22 s22 ⊢
  clear hV2 c15 f15
  go_upto_region 24 with fail
  have b24 : Row ((V2.alloc (.cells #[.int .i64 0, .int .i64 0, .int .i64 0, .pointer none, .int .i64 0, .bool false, .bool false, .bool false] 43)).alloc (.cells #[.nilIface, .slice none 0 0, .map none, .map none, .slice none 0 0, .slice none 0 0, .slice none 0 0, .int .i64 0, .int .i64 0, .slice none 0 0, .map none, .map none, .slice none 0 0, .slice none 0 0, .map none, .map none, .string ⟨#[]⟩, ptr (Y + 2)] 55)) (Y + 2) 43 (budCells 0) := (Row.new V2 43 (budCells 0) (Y + 2) s22.symm).alloc (.cells #[.nilIface, .slice none 0 0, .map none, .map none, .slice none 0 0, .slice none 0 0, .slice none 0 0, .int .i64 0, .int .i64 0, .slice none 0 0, .map none, .map none, .slice none 0 0, .slice none 0 0, .map none, .map none, .string ⟨#[]⟩, ptr (Y + 2)] 55)
  have m24 : Row ((V2.alloc (.cells #[.int .i64 0, .int .i64 0, .int .i64 0, .pointer none, .int .i64 0, .bool false, .bool false, .bool false] 43)).alloc (.cells #[.nilIface, .slice none 0 0, .map none, .map none, .slice none 0 0, .slice none 0 0, .slice none 0 0, .int .i64 0, .int .i64 0, .slice none 0 0, .map none, .map none, .slice none 0 0, .slice none 0 0, .map none, .map none, .string ⟨#[]⟩, ptr (Y + 2)] 55)) (Y + 3) 55 [.nilIface, .slice none 0 0, .map none, .map none, .slice none 0 0, .slice none 0 0, .slice none 0 0, .int .i64 0, .int .i64 0, .slice none 0 0, .map none, .map none, .slice none 0 0, .slice none 0 0, .map none, .map none, .string ⟨#[]⟩, ptr (Y + 2)] := Row.new (V2.alloc (.cells #[.int .i64 0, .int .i64 0, .int .i64 0, .pointer none, .int .i64 0, .bool false, .bool false, .bool false] 43)) 55 [.nilIface, .slice none 0 0, .map none, .map none, .slice none 0 0, .slice none 0 0, .slice none 0 0, .int .i64 0, .int .i64 0, .slice none 0 0, .map none, .map none, .slice none 0 0, .slice none 0 0, .map none, .map none, .string ⟨#[]⟩, ptr (Y + 2)] (Y + 3) (by simp [s22])
  have hF24 : Fr [Z + 5] (.slice none 0 0) (.slice none 0 0) W ((V2.alloc (.cells #[.int .i64 0, .int .i64 0, .int .i64 0, .pointer none, .int .i64 0, .bool false, .bool false, .bool false] 43)).alloc (.cells #[.nilIface, .slice none 0 0, .map none, .map none, .slice none 0 0, .slice none 0 0, .slice none 0 0, .int .i64 0, .int .i64 0, .slice none 0 0, .map none, .map none, .slice none 0 0, .slice none 0 0, .map none, .map none, .string ⟨#[]⟩, ptr (Y + 2)] 55)) := hF22.trans ((Fr.alloc _ _).trans (Fr.alloc _ _))
  have hB24 : Below (Z + 5) W ((V2.alloc (.cells #[.int .i64 0, .int .i64 0, .int .i64 0, .pointer none, .int .i64 0, .bool false, .bool false, .bool false] 43)).alloc (.cells #[.nilIface, .slice none 0 0, .map none, .map none, .slice none 0 0, .slice none 0 0, .slice none 0 0, .int .i64 0, .int .i64 0, .slice none 0 0, .map none, .map none, .slice none 0 0, .slice none 0 0, .map none, .map none, .string ⟨#[]⟩, ptr (Y + 2)] 55)) := (hB22.alloc (by omega) _).alloc (by simp; omega) _
  have r24 := (r22.alloc (.cells #[.int .i64 0, .int .i64 0, .int .i64 0, .pointer none, .int .i64 0, .bool false, .bool false, .bool false] 43)).alloc (.cells #[.nilIface, .slice none 0 0, .map none, .map none, .slice none 0 0, .slice none 0 0, .slice none 0 0, .int .i64 0, .int .i64 0, .slice none 0 0, .map none, .map none, .slice none 0 0, .slice none 0 0, .map none, .map none, .string ⟨#[]⟩, ptr (Y + 2)] 55)
  have i24 := (i22.alloc (.cells #[.int .i64 0, .int .i64 0, .int .i64 0, .pointer none, .int .i64 0, .bool false, .bool false, .bool false] 43)).alloc (.cells #[.nilIface, .slice none 0 0, .map none, .map none, .slice none 0 0, .slice none 0 0, .slice none 0 0, .int .i64 0, .int .i64 0, .slice none 0 0, .map none, .map none, .slice none 0 0, .slice none 0 0, .map none, .map none, .string ⟨#[]⟩, ptr (Y + 2)] 55)
  have x24 := (x22.alloc (.cells #[.int .i64 0, .int .i64 0, .int .i64 0, .pointer none, .int .i64 0, .bool false, .bool false, .bool false] 43)).alloc (.cells #[.nilIface, .slice none 0 0, .map none, .map none, .slice none 0 0, .slice none 0 0, .slice none 0 0, .int .i64 0, .int .i64 0, .slice none 0 0, .map none, .map none, .slice none 0 0, .slice none 0 0, .map none, .map none, .string ⟨#[]⟩, ptr (Y + 2)] 55)
  have s24 : ((V2.alloc (.cells #[.int .i64 0, .int .i64 0, .int .i64 0, .pointer none, .int .i64 0, .bool false, .bool false, .bool false] 43)).alloc (.cells #[.nilIface, .slice none 0 0, .map none, .map none, .slice none 0 0, .slice none 0 0, .slice none 0 0, .int .i64 0, .int .i64 0, .slice none 0 0, .map none, .map none, .slice none 0 0, .slice none 0 0, .map none, .map none, .string ⟨#[]⟩, ptr (Y + 2)] 55)).heap.size = Y + 4 := by simp [s22]
  simp only [Nat.add_assoc, Nat.reduceAdd]
  generalize hV4 : World.alloc (World.alloc V2 _) _ = V4 at b24 m24 hF24 hB24 r24 i24 x24 s24 ⊢
  clear hV4 hF22 hB22 r22 i22 x22 s22 s21
  have hM4 : Mm V4 (Y + 4) (Y + 3) (Y + 2) (.slice none 0 0) [] := ⟨⟨_, m24, rfl, rfl, rfl⟩, World.ownsRow_nil _ _ _ _, by omega⟩
  have HG : Hid (Q1 V4 B Z n ((List.range n).map (m0 lA fA), (List.range n).map (fun _ => 9223372036854775808), qA) ((List.range n).map (m0 lB fB), (List.range n).map (fun _ => 9223372036854775808), qB) ((List.range n).map (m0 lH fH), (List.range n).map (fun _ => 9223372036854775808), qH) (m0 lA fA) (m0 lB fB) (m0 lH fH) oc a' lC fC ∧ Row V4 (Z + 3) 36 (((List.range n).map fF).map u) ∧ Row V4 (Z + 4) 36 (((List.range n).map (fun j => fF j &&& wd lC fC j)).map u) ∧ Src V4 (Z + 6) a2 n fF ∧ Below B w V4) := by
    obtain ⟨hQ, hwF, hwI, sF, hW⟩ := HQ.out
    exact ⟨hQ.below hB24 (by omega), hwF.below hB24 (by omega), hwI.below hB24 (by omega), sF.fr hF24 (fun x e => by have := (sF.2 x e).1; simp; omega) (World.ownsRow_nil W 0 23 1), hW.trans (hB24.mono (by omega))⟩
  clear HQ hF24 hB24
  have HM : Hid _ := And.intro hM4 (And.intro r24 (And.intro i24 (And.intro x24 b24)))
  clear hM4 r24 i24 x24 b24 m24
  have hns := neqSlice
  have hnm := neqMap
  go_upto_region 25 with (go_at_call 7; refine (follow_ok B (Y + 4) (Y + 3) (Y + 2) (Z + 5) Y (Y + 1) (B + 9) n _ _ _ _ oc a2 c2 fF a' lC c' fC qR V4 hn (by omega) hlC HB.out.1 HB.out.2.2.2.2 HG.out.1.t0 HG.out.1.t1 HG.out.1.th HM.out.1 HM.out.2.1 (by simp [kl]) (by simp [k8]) (by simp [k9]) (by simp [k10]) (by simp [k11]) (by simp [k12]) (by simp [kl]) (by simp [k14]) (by simp [kl]) HM.out.2.2.1 HM.out.2.2.2.1 HG.out.1.ro o4 o5 HM.out.2.2.2.2 ⟨by omega, by omega, by omega, by omega, by omega, by omega, by omega⟩ (by omega) (HG.out.2.2.2.1.mono (by omega)) (HG.out.1.srcC.mono (by omega))).mono ?_; rintro e W5 ⟨⟨v5, rfl⟩, cv, hpost⟩; have HP : Hid _ := hpost; clear hpost)
  have E0 := after_all (m0 lA fA) fF fF id n qA (fun j => rfl) (fun j h => h)
  have E1 := after_all (m0 lB fB) fF fF id n qB (fun j => rfl) (fun j h => h)
  have E2 := after_all (m0 lH fH) (fun j => fF j &&& wd lC fC j) fF (both lC fC) n qH (fun j => rfl) (fun j h => by simp [h])
  rw [List.map_id] at E0 E1
  have HZ : Hid (Ph W5 B (B + 1) (B + 2) Z (Z + 3) n (qA || added (m0 lA fA) fF n) (m0 lA fA) fF ∧ Ph W5 (B + 3) (B + 4) (B + 5) (Z + 1) (Z + 3) n (qB || added (m0 lB fB) fF n) (m0 lB fB) fF ∧ Ph W5 (B + 6) (B + 7) (B + 8) (Z + 2) (Z + 4) n (qH || added (m0 lH fH) (fun j => fF j &&& wd lC fC j) n) (m0 lH fH) (fun j => fF j &&& wd lC fC j) ∧
      Fin W5 w B (Y + 3) (Y + 2) (Y + 4) W5.heap.size aC lC fC a' c' oc cv (more (!qH && added (m0 lH fH) (fun j => fF j &&& wd lC fC j) n) (more (!qB && added (m0 lB fB) fF n) (more (!qA && added (m0 lA fA) fF n) [] (ptr B)) (ptr (B + 3))) (ptr (B + 6))) ∧ Z + 4 < W5.heap.size) := by
    obtain ⟨T0, T1, TH, hMm, _, hFr⟩ := HP.out
    rw [chg_of rfl (by rw [E2]), chg_of rfl (by rw [E1]), chg_of rfl (by rw [E0])] at hMm
    rw [E0] at T0
    rw [E1] at T1
    rw [E2] at TH
    obtain ⟨hQ, hwF, hwI, sF, hW⟩ := HG.out
    obtain ⟨x1, x2, x3, x4, x5⟩ := HB.out
    have hsz := hFr.size
    rw [s24] at hsz
    have nb : ∀ k, B + 9 ≤ k → k < Z + 5 → k ∉ [B, B + 1, B + 2, B + 3, B + 4, B + 5, B + 6, B + 7, B + 8, Y + 3, Z + 5, Y + 2] := fun k h1 h2 hm => by
      simp only [List.mem_cons, List.not_mem_nil, or_false] at hm
      omega
    have no : ∀ k : Nat, some k ≠ (Value.slice none 0 0).ownBlock := fun k => by simp [Value.ownBlock]
    have hW5 : Below B w W5 := hW.trans (hFr.below (fun b hb => by simp only [List.mem_cons, List.not_mem_nil, or_false] at hb; omega) (by omega))
    have wv : ∀ i, (fun j => fF j &&& wd lC fC j) i < 18446744073709551616 := fun i => Nat.lt_of_le_of_lt Nat.and_le_left (x1 i)
    refine ⟨⟨T0.role, T0.mem, T0.frs, hFr.row hQ.old0 (nb _ (by omega) (by omega)) (no _), hFr.row hwF (nb _ (by omega) (by omega)) (no _), fun i => (m0_ok lA fA x2 i).2, x1⟩,
      ⟨T1.role, T1.mem, T1.frs, hFr.row hQ.old1 (nb _ (by omega) (by omega)) (no _), hFr.row hwF (nb _ (by omega) (by omega)) (no _), fun i => (m0_ok lB fB x3 i).2, x1⟩,
      ⟨TH.role, TH.mem, TH.frs, hFr.row hQ.oldH (nb _ (by omega) (by omega)) (no _), hFr.row hwI (nb _ (by omega) (by omega)) (no _), fun i => (m0_ok lH fH x4 i).2, wv⟩,
      ⟨HR.out.1.below hW5, hMm.mm, hMm.own, hFr.row hQ.ro (nb _ (by omega) (by omega)) (no _), o5, o9, o12, hQ.srcC.fr hFr (fun x e => nb _ (by have := (hQ.srcC.2 x e).1; omega) (by have := hQ.lt x e; omega)) (World.ownsRow_nil V4 0 23 1), hW5, ?_⟩, by omega⟩
    refine ⟨by omega, by omega, fun b e => own_lt hMm.own b e, fun x e => ?_, Nat.le_refl _⟩
    have := hQ.lt x e
    omega
  obtain ⟨rcs', g0, g8, g9, g10, g11, g12⟩ := HP.out.2.2.2.2.1
  have t8 := (g0.cell 8).trans g8
  have t9 := (g0.cell 9).trans g9
  have t10 := (g0.cell 10).trans g10
  have t11 := (g0.cell 11).trans g11
  have t12 := (g0.cell 12).trans g12
  clear HP HG HM E0 E1 E2 g0
  go_upto_region 27 with fail
  go_cut [32] (fun v wx => v = .slice none 0 0 ∧ wx = W5)
  case first =>
    go_wp2
    go_meet
    exact ⟨rfl, rfl⟩
  case rest =>
    obtain ⟨rfl, rfl⟩ := hcut
    rename_i K hK
    obtain ⟨p0, p1, p2, pf, pz⟩ := HZ.out
    exact hK _ _ (tail28 (cC := cC) hlC hn pz hbz pf (World.ownsRow_nil _ _ _ _) (Nat.le_refl _) rfl (fun v hv => by cases hv) p0 rfl p1 rfl p2)
end Follow
end Go.Proofs.YbulkcrmgDoor
