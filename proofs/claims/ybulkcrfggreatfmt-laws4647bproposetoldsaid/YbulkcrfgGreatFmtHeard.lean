/-
  LawS4647BPropose: the law's own candidates and members.
-/
import Derived.Test.YbulkcrfgGreatFmtWant
namespace Go.Proofs.YbulkcrfgGreatFmt
open Go.RowKit
namespace Propose
open Kit

/-- Of the first k lists one is for me and from f. -/
def frm (a : Nat → AL) (me : Nat) : Nat → Nat → Bool
  | 0 => fun _ => false
  | k + 1 => if (a k).l = me then fun f => frm a me k f || decide ((a k).f = f) else frm a me k
/-- How many of 1, .., F are in p. -/
def hdc (p : Nat → Bool) : Nat → Nat
  | 0 => 0
  | f + 1 => hdc p f + if p (f + 1) then 1 else 0
theorem hdc_le (p : Nat → Bool) (F : Nat) : hdc p F ≤ F := by
  induction F with
  | zero => exact Nat.le_refl _
  | succ f ih =>
    show hdc p f + _ ≤ f + 1
    split <;> omega
/-- A row of truths. -/
def bools (n : Nat) (p : Nat → Bool) : List Value := (List.range n).map fun i => .bool (p i)
theorem bools_get (n : Nat) (p : Nat → Bool) (i : Nat) (h : i < n) : (bools n p)[i]? = some (.bool (p i)) := by simp [bools, h]
theorem bools_set (n : Nat) (p : Nat → Bool) (i : Nat) : (bools n p).set i (.bool true) = bools n (fun j => p j || decide (i = j)) := by
  apply List.ext_getElem?
  intro j
  by_cases h : j < n
  · rw [bools_get n _ j h]
    by_cases e : i = j
    · subst e
      rw [List.getElem?_set_self (by simp [bools]; omega)]
      simp
    · rw [List.getElem?_set_ne e, bools_get n _ j h]
      simp [e]
  · rw [List.getElem?_eq_none (by simp [bools]; omega), List.getElem?_eq_none (by simp [bools]; omega)]

set_option linter.unusedSimpArgs false in
set_option maxRecDepth 1000000 in
set_option maxHeartbeats 16000000 in
theorem lawHeard (w0 V : World) (m N T me k v0 eb S mb bf g n cap : Nat) (gv phv : Value) (r : Option Nat) (E : Nat → El) (X : Nat → List Nat) (hN : 1 ≤ N ∧ N ≤ 7) (hT : T < N) (hk : 1 ≤ k ∧ k ≤ 20) (hn : n ≤ 300) (hv : v0 < 6)
    (hL : Left3 w0 V m N T me k eb S mb bf gv phv r) (hE : Lst V g n E X) (hr : r = wantR (als E X) me n N (N - T) (cnd (als E X) me (fun i => decide (v0 = i)) n) (hdc (frm (als E X) me n) N)) {u0 u1 u2 u3 u4 u5 u6 u7 u8 u9 u10 u11 u12 u13 u20 u21 u22 u23 u24 u25 u26 u27 u28 u29 u30 u31 u32 u34 u36 u37 u38 u39 u40 u41 u42 u43 u44 u45 u46 u47 u48 u49 u50 u51 u52 u53 u54 u55 u56 u57 u58 u59 u60 u61 u62 u63 u64 u65 u66 u67 u68 u69 u70 u71 u72 u73 u74 u75 u76 u77 u78 u79 u80 u81 u82 u83 u84 u85 u86 u87 u88 u89 u90 u91 u92 u93 u94 u95 u96 u97 u98 u99 u100 u101 u102 u103 u104 u105 u106 u107 u108 u109 u110 u111 u112 u113 u114 u115 u116 u117 u118 u119 u120 u121 u122 u123 u124 u125 u126 u127 u128 u129 u130 u131 u132 u133 u134 u135 u136 u137 u138 u139 u140 u141 u142 u143 u144 u145 u146 u147 u148 u149 u150 u151 u152 u153 u154 u155 u156 u157 u158 u159 u160 u161 u162 u163 u164 u165 u166 u167 u168 u169 u170 u171 u172 u173 u174 u175 u176 u177 u178 u179 u180 u181 u182 u183 u184 u185 u186 u187 u188 u189 u190 u191 u192 u193 u194 u195 u196 u197 u198 u199 u200 u201 u202 u203 u204 u205 u206 u207 u208 u209 u210 u211 u212 u213 u214 u215 u216 u217 u218 u219 u220 u221 u222 u223 u224 u225 u226 u227 u228 u229 u230 u231 u232 u233 u234 u235 u236 u237 u238 u239 u240 u241 u242 u243 u244 u245 u246 u247 u248 u249 u250 u251 u252 u253 u254 u255 u256 u257 u258 u259 u260 u261 u262 u263 u264 u265 u266 u267 u268 u269 u270 u271 u272 u273 u274 u275 u276 u277 u278 u279 u280 u281 u282 u283 u284 u285 u286 u287 u288 u289 u290 u291 u292 u293 u294 u295 u296 u297 u298 u299 u300 u301 u302 u303 u304 u305 u306 u307 u308 u309 u310 u311 u312 u313 u314 u315 u316 u317 u318 u319 u320 u321 u322 u323 u324 u325 u326 u327 u328 u329 u330 u331 u332 u333 u334 u335 u336 u337 u338 u339 u340 u341 u342 u343 u344 u345 u346 u347 u348 u349 u350 u351 u352 u353 u354 u355 u356 u357 u358 u359 u360 u361 u362 u363 : Value} :
    Code.wp Ybaz.prog law50 (bodyPost Ybaz.prog Ybaz.f3 (lawPost w0)) ⟨#[u0, u1, u2, u3, u4, u5, u6, u7, u8, u9, u10, u11, u12, u13, num N, num T, num me, num k, num v0, .slice (some ⟨g, 0, none⟩) n cap, u20, u21, u22, u23, u24, u25, u26, u27, u28, u29, u30, u31, u32, ptr m, u34, ptr bf, u36, u37, u38, u39, u40, u41, u42, u43, u44, u45, u46, u47, u48, u49, u50, u51, u52, u53, u54, u55, u56, u57, u58, u59, u60, u61, u62, u63, u64, u65, u66, u67, u68, u69, u70, u71, u72, u73, u74, u75, u76, u77, u78, u79, u80, u81, u82, u83, u84, u85, u86, u87, u88, u89, u90, u91, u92, u93, u94, u95, u96, u97, u98, u99, u100, u101, u102, u103, u104, u105, u106, u107, u108, u109, u110, u111, u112, u113, u114, u115, u116, u117, u118, u119, u120, u121, u122, u123, u124, u125, u126, u127, u128, u129, u130, u131, u132, u133, u134, u135, u136, u137, u138, u139, u140, u141, u142, u143, u144, u145, u146, u147, u148, u149, u150, u151, u152, u153, u154, u155, u156, u157, u158, u159, u160, u161, u162, u163, u164, u165, u166, u167, u168, u169, u170, u171, u172, u173, u174, u175, u176, u177, u178, u179, u180, u181, u182, u183, u184, u185, u186, u187, u188, u189, u190, u191, u192, u193, u194, u195, u196, u197, u198, u199, u200, u201, u202, u203, u204, u205, u206, u207, u208, u209, u210, u211, u212, u213, u214, u215, u216, u217, u218, u219, u220, u221, u222, u223, u224, u225, u226, u227, u228, u229, u230, u231, u232, u233, u234, u235, u236, u237, u238, u239, u240, u241, u242, u243, u244, u245, u246, u247, u248, u249, u250, u251, u252, u253, u254, u255, u256, u257, u258, u259, u260, u261, u262, u263, u264, u265, u266, u267, u268, u269, u270, u271, u272, u273, u274, u275, u276, u277, u278, u279, u280, u281, u282, u283, u284, u285, u286, u287, u288, u289, u290, u291, u292, u293, u294, u295, u296, u297, u298, u299, u300, u301, u302, u303, u304, u305, u306, u307, u308, u309, u310, u311, u312, u313, u314, u315, u316, u317, u318, u319, u320, u321, u322, u323, u324, u325, u326, u327, u328, u329, u330, u331, u332, u333, u334, u335, u336, u337, u338, u339, u340, u341, u342, u343, u344, u345, u346, u347, u348, u349, u350, u351, u352, u353, u354, u355, u356, u357, u358, u359, u360, u361, u362, u363], []⟩ V := by
  have HL : Hid (Left3 w0 V m N T me k eb S mb bf gv phv r) := hL
  have HE : Hid (Lst V g n E X) := hE
  have HR : Hid (r = wantR (als E X) me n N (N - T) (cnd (als E X) me (fun i => decide (v0 = i)) n) (hdc (frm (als E X) me n) N)) := hr
  have hvI : (v0 : Int) < 6 := by omega
  clear hL hE hr
  conv => arg 2; whnf
  refine wp_seq_k (fun K0 hK0 => ?_)
  have H0 : Hid _ := hK0
  clear hK0
  go_wp2_with fail
  obtain ⟨cb, hcb⟩ : ∃ cb, V.heap.size = cb := ⟨_, rfl⟩
  rw [hcb]
  generalize hV1 : World.alloc V _ = V1
  have HV1 : Hid (Row V1 cb 79 (bools 6 (fun _ => false)) ∧ V1.heap.size = cb + 1 ∧ Below V.heap.size V V1) := by
    rw [← hV1]
    exact ⟨Row.new V 79 (bools 6 (fun _ => false)) _ hcb.symm, by simp [hcb], (Below.refl _ _).alloc (Nat.le_refl _) _⟩
  have cv : V1.cell? ⟨cb, v0, none⟩ = some (.bool false) := by rw [HV1.out.1.cell, bools_get 6 _ _ hv]
  have fv := HV1.out.1.frozen v0
  clear hV1
  refine H0.out _ _ (wp_seq_k (fun K1 hK1 => ?_))
  have H1 : Hid _ := hK1
  clear hK1 H0
  go_wp2_with fail
  generalize hV2 : World.setCell V1 _ _ = V2
  have HV2 : Hid (Row V2 cb 79 (bools 6 (fun i => decide (v0 = i))) ∧ V2.heap.size = cb + 1 ∧ Below V.heap.size V V2) := by
    rw [← hV2]
    obtain ⟨a1, a2, a3⟩ := HV1.out
    have h := a1.set v0 (.bool true)
    rw [bools_set] at h
    simp only [Bool.false_or] at h
    exact ⟨h, by simp [a2], a3.setCell (by simp; omega) _⟩
  clear hV2 cv fv HV1
  refine H1.out _ _ (wp_seq_k (fun K2 hK2 => ?_))
  have H2 : Hid _ := hK2
  clear hK2 H1
  go_wp2_with fail
  obtain ⟨fb, hfb⟩ : ∃ fb, V2.heap.size = fb := ⟨_, rfl⟩
  rw [hfb]
  generalize hV3 : World.alloc V2 _ = V3
  have HV3 : Hid (Row V3 cb 79 (bools 6 (fun i => decide (v0 = i))) ∧ Row V3 fb 80 (bools 8 (fun _ => false)) ∧ Below V.heap.size V V3) := by
    rw [← hV3]
    obtain ⟨a1, a2, a3⟩ := HV2.out
    exact ⟨a1.alloc _, Row.new V2 80 (bools 8 (fun _ => false)) _ hfb.symm, a3.alloc (by omega) _⟩
  have hcf : cb < fb := by have := HV2.out.2.1; omega
  clear hV3 HV2 hfb
  refine H2.out _ _ (wp_seq_k (fun K3 hK3 => ?_))
  have H3 : Hid _ := hK3
  clear hK3 H2
  go_upto_region 54 with fail
  go_loopw [228] (fun v228 wr => ∃ i : Nat, i ≤ n ∧ v228 = num i ∧ Row wr cb 79 (bools 6 (cnd (als E X) me (fun i => decide (v0 = i)) i)) ∧ Row wr fb 80 (bools 8 (frm (als E X) me i)) ∧ Below V.heap.size V wr) (fun v _ => n - (intOf v).toNat)
  case atStart => exact ⟨0, Nat.zero_le _, rfl, HV3.out.1, HV3.out.2.1, HV3.out.2.2⟩
  case round =>
    obtain ⟨i, hi, rfl, p1, p2, p3⟩ := hrel
    clear HV3
    by_cases hlt : i < n
    · have g1 : (i : Int) < (n : Int) := by omega
      have hLr := HE.out.below p3
      have c0 := hLr.arr.c0 hlt
      have c1 := hLr.arr.c1 hlt
      have c2 := hLr.arr.c2 hlt
      have c3 := hLr.arr.c3 hlt
      have hO := HE.out.ok i hlt
      obtain ⟨o1, o2, o3, o4, o5, o6⟩ := hO
      rw [o5] at c2
      have HP : Hid (_ ∧ _ ∧ _) := ⟨p1, p2, p3⟩
      have HV : Hid (Vl V (E i).va (X i)) := o6
      have hcn : cnd (als E X) me (fun i => decide (v0 = i)) (i + 1) = if (E i).l = me then fun j => cnd (als E X) me (fun i => decide (v0 = i)) i j || (X i).contains j else cnd (als E X) me (fun i => decide (v0 = i)) i := rfl
      have hfr : frm (als E X) me (i + 1) = if (E i).l = me then fun f => frm (als E X) me i f || decide ((E i).f = f) else frm (als E X) me i := rfl
      have HO1 : Hid (∀ y ∈ X i, y < 6) := o1
      clear p1 p2 p3 hLr o6 o5 o1
      generalize X i = xs at c2 HV o2 hcn HO1
      go_upto_region 56 with fail
      have hrow := Row.new wr 29 [num (E i).f, num (E i).l, .slice (E i).va xs.length (E i).vc, .bool (E i).al] _ rfl
      have y0 := hrow.cell 0
      have y1 := hrow.cell 1
      have y2 := hrow.cell 2
      simp only [List.getElem?_cons_zero, List.getElem?_cons_succ] at y0 y1 y2
      generalize hbv : wr.heap.size = bv at hrow y0 y1 y2 ⊢
      generalize hVV : World.alloc wr _ = V4 at hrow y0 y1 y2 ⊢
      have H4 : Hid (Row V4 cb 79 (bools 6 (cnd (als E X) me (fun i => decide (v0 = i)) i)) ∧ Row V4 fb 80 (bools 8 (frm (als E X) me i)) ∧ Below V.heap.size V V4 ∧ Row V4 bv 29 [num (E i).f, num (E i).l, .slice (E i).va xs.length (E i).vc, .bool (E i).al] ∧ fb < bv) := by
        obtain ⟨a1, a2, a3⟩ := HP.out
        have := a2.lt
        refine ⟨?_, ?_, ?_, hrow, by omega⟩
        · rw [← hVV]; exact a1.alloc _
        · rw [← hVV]; exact a2.alloc _
        · rw [← hVV]; exact a3.alloc a3.size _
      clear hVV hbv c0 c1 c2 c3 HP hrow
      by_cases hl : (E i).l = me
      · have b1 : (((E i).l : Int) != (me : Int)) = false := by simp; omega
        rw [if_pos hl] at hcn hfr
        have Hc : Hid (_ ∧ _) := ⟨hcn, hfr⟩
        have hf8 : (((E i).f : Nat) : Int) < 8 := by omega
        have cf : V4.cell? ⟨fb, (E i).f, none⟩ = some (.bool (frm (als E X) me i (E i).f)) := by rw [H4.out.2.1.cell, bools_get 8 _ _ (by omega)]
        have ff := H4.out.2.1.frozen (E i).f
        clear hcn hfr
        go_upto_region 58 with fail
        generalize hV5 : World.setCell V4 _ _ = V5
        have H5 : Hid (Row V5 cb 79 (bools 6 (cnd (als E X) me (fun i => decide (v0 = i)) i)) ∧ Row V5 fb 80 (bools 8 (frm (als E X) me (i + 1))) ∧ Below V.heap.size V V5 ∧ V5.cell? ⟨bv, 2, none⟩ = some (.slice (E i).va xs.length (E i).vc)) := by
          obtain ⟨a1, a2, a3, a4, a5⟩ := H4.out
          rw [← hV5]
          have h := a2.set (E i).f (.bool true)
          rw [bools_set] at h
          refine ⟨a1.setOther _ _ (by simp; omega), by rw [Hc.out.2]; exact h, a3.setCell (by simp; omega) _, ?_⟩
          exact ((a4.setOther _ _ (by simp; omega)).cell 2).trans rfl
        clear hV5 H4 cf ff y0 y1 y2
        have y2 := H5.out.2.2.2
        go_upto_region 59 with fail
        go_loopw [242] (fun v242 wq => ∃ j : Nat, j ≤ xs.length ∧ v242 = num j ∧ Row wq cb 79 (bools 6 (fun t => cnd (als E X) me (fun i => decide (v0 = i)) i t || (xs.take j).contains t)) ∧ Row wq fb 80 (bools 8 (frm (als E X) me (i + 1))) ∧ Below V.heap.size V wq) (fun v _ => xs.length - (intOf v).toNat)
        case atStart =>
          obtain ⟨a1, a2, a3, a4⟩ := H5.out
          refine ⟨0, Nat.zero_le _, rfl, ?_, a2, a3⟩
          simpa using a1
        case round =>
          clear y2 H5
          obtain ⟨j, hj, rfl, p1, p2, p3⟩ := hrel
          by_cases hjl : j < xs.length
          · have g2 : (j : Int) < (xs.length : Int) := by omega
            obtain ⟨x, hx⟩ : ∃ x, xs[j]? = some x := ⟨xs[j], by simp⟩
            obtain ⟨b, off, hva, hcx⟩ : ∃ b off, (E i).va = some ⟨b, off, none⟩ ∧ wr.cell? ⟨b, off + j, none⟩ = some (num x) := by
              rcases HV.out.below p3 with h | ⟨b, off, e, _, hc⟩
              · rw [h] at hjl; simp at hjl
              · exact ⟨b, off, e, hc j x hx⟩
            have hx6 : x < 6 := HO1.out x (List.mem_of_getElem? hx)
            have hx6I : (x : Int) < 6 := by omega
            have cc : ∃ v, wr.cell? ⟨cb, x, none⟩ = some v := ⟨_, by rw [p1.cell, bools_get 6 _ _ hx6]⟩
            obtain ⟨vc, cc⟩ := cc
            have fc := p1.frozen x
            have HP : Hid (_ ∧ _ ∧ _) := ⟨p1, p2, p3⟩
            have Hx : Hid _ := hx
            clear p1 p2 p3 hx
            rw [hva]
            go_wp2_with fail
            go_roundw
            case rel =>
              obtain ⟨a1, a2, a3⟩ := HP.out
              have h := a1.set x (.bool true)
              rw [bools_set] at h
              have e : (fun t => (cnd (als E X) me (fun i => decide (v0 = i)) i t || (xs.take j).contains t) || decide (x = t)) = (fun t => cnd (als E X) me (fun i => decide (v0 = i)) i t || (xs.take (j + 1)).contains t) := by
                funext t
                rw [List.take_add_one, Hx.out, Bool.or_assoc]
                congr 1
                rw [Bool.eq_iff_iff]
                simp only [Bool.or_eq_true, List.contains_iff_mem, List.mem_append, decide_eq_true_eq, Option.toList_some, List.mem_singleton]
                exact ⟨fun h => h.imp id Eq.symm, fun h => h.imp id Eq.symm⟩
              rw [e] at h
              exact ⟨j + 1, by omega, by simp, h, a2.setOther _ _ (by simp; omega), a3.setCell (by simp; omega) _⟩
            case measure => simp [intOf]; omega
          · obtain rfl : j = xs.length := by omega
            have HP : Hid (_ ∧ _ ∧ _) := ⟨p1, p2, p3⟩
            clear p1 p2 p3
            go_wp2_with fail
            go_roundw
            case rel =>
              obtain ⟨a1, a2, a3⟩ := HP.out
              refine ⟨i + 1, by omega, by simp, ?_, a2, a3⟩
              rw [Hc.out.1]
              rw [List.take_length] at a1
              exact a1
            case measure => simp [intOf]; omega
      · have b1 : (((E i).l : Int) != (me : Int)) = true := by simp; omega
        rw [if_neg hl] at hcn hfr
        have Hc : Hid (_ ∧ _) := ⟨hcn, hfr⟩
        clear hcn hfr
        go_wp2_with fail
        go_roundw
        case rel =>
          obtain ⟨a1, a2, a3, a4, a5⟩ := H4.out
          exact ⟨i + 1, by omega, by simp, by rw [Hc.out.1]; exact a1, by rw [Hc.out.2]; exact a2, a3⟩
        case measure => simp [intOf]; omega
    · obtain rfl : i = n := by omega
      have HP : Hid (_ ∧ _ ∧ _) := ⟨p1, p2, p3⟩
      have hff : ∀ f, f < 8 → wr.cell? ⟨fb, f, none⟩ = some (.bool (frm (als E X) me i f)) := fun f hf => by rw [p2.cell, bools_get 8 _ _ hf]
      have HFF : Hid _ := hff
      clear p1 p2 p3 hff
      go_wp2_with fail
      refine H3.out _ _ (wp_seq_k (fun K4 hK4 => ?_))
      have H4 : Hid _ := hK4
      clear hK4 H3
      go_wp2_with fail
      refine H4.out _ _ (wp_seq_k (fun K5 hK5 => ?_))
      have H5 : Hid _ := hK5
      clear hK5 H4
      obtain ⟨W, hW⟩ : ∃ W, wr = W := ⟨_, rfl⟩
      rw [hW] at HP HFF ⊢
      clear hW
      go_upto_region 66 with fail
      go_loopw [42, 43] (fun v42 v43 wr => ∃ F : Nat, F ≤ N ∧ v43 = num (F + 1) ∧ v42 = num (hdc (frm (als E X) me i) F) ∧ wr = W) (fun _ v _ => N + 1 - (intOf v).toNat)
      case atStart => exact ⟨0, Nat.zero_le _, rfl, rfl, rfl⟩
      case round =>
        obtain ⟨F, hF, rfl, rfl, rfl⟩ := hrel
        have hcl := hdc_le (frm (als E X) me i) F
        have hcs : hdc (frm (als E X) me i) (F + 1) = hdc (frm (als E X) me i) F + if frm (als E X) me i (F + 1) then 1 else 0 := rfl
        by_cases hFN : F < N
        · have g2 : ((F + 1 : Nat) : Int) ≤ (N : Int) := by omega
          have g3 : ((F + 1 : Nat) : Int) < 8 := by omega
          have cf := HFF.out (F + 1) (by omega)
          generalize hc0 : hdc (frm (als E X) me i) F = c at hcs hcl ⊢
          cases hb : frm (als E X) me i (F + 1) with
          | true =>
            rw [hb] at cf hcs
            have Hcs : Hid _ := hcs
            clear hcs
            go_wp2_with fail
            go_roundw
            case rel => exact ⟨F + 1, by omega, by simp, by rw [Hcs.out]; simp, trivial⟩
            case measure => simp [intOf]; omega
          | false =>
            rw [hb] at cf hcs
            have Hcs : Hid _ := hcs
            clear hcs
            go_wp2_with fail
            go_roundw
            case rel => exact ⟨F + 1, by omega, by simp, by rw [Hcs.out]; simp, trivial⟩
            case measure => simp [intOf]; omega
        · obtain rfl : F = N := by omega
          have g2 : ¬ ((F + 1 : Nat) : Int) ≤ (F : Int) := by omega
          clear hcs
          go_wp2_with fail
          refine H5.out _ _ (lawWant w0 wr m F T me k eb S mb bf g i cap cb _ gv phv r E X (cnd (als E X) me (fun i => decide (v0 = i)) i) hN hT hk hn (HL.out.below HP.out.2.2) (HE.out.below HP.out.2.2) (fun t ht => ?_) HR.out)
          rw [HP.out.1.cell, bools_get 6 _ _ ht]
end Propose
end Go.Proofs.YbulkcrfgGreatFmt
