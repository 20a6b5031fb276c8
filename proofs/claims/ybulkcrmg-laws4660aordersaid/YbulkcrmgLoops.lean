/-
  newOrder's three loops.
-/
import Derived.Test.YbulkcrmgState
namespace Go.Proofs.Ybulkcrmg
open Go.RowKit
namespace Order
open Kit

def fromR (k : Nat) : Code → Option Code
  | .region i o b => if i = k then some (.region i o b) else none
  | .seq a b => match fromR k a with
    | some c => some (.seq c b)
    | none => fromR k b
  | _ => none

/-- What newOrder is handed. -/
structure Given (W : World) (bRul bInd nR T N nM nS bM bSe : Nat) (mI mR sA sB sK : Nat → Nat) (fI : Nat → Nat → Option Nat) (rc : List Value) : Prop where
  hnR : nR ≤ 1024
  hT : T ≤ 10
  hnM : nM ≤ 1024
  hnS : nS ≤ 1024
  ind : MapIs W bInd fI T N
  rul : Row W bRul 39 rc
  rc3 : rc[3]? = some (dn bM nM)
  rc4 : rc[4]? = some (dn bSe nS)
  ltM : bM < W.heap.size
  ltS : bSe < W.heap.size
  m0 : ∀ k, k < nM → W.cell? ⟨bM, k * 2, none⟩ = some (.string (nm 105 (mI k)))
  m1 : ∀ k, k < nM → W.cell? ⟨bM, k * 2 + 1, none⟩ = some (str (mR k))
  s0 : ∀ k, k < nS → W.cell? ⟨bSe, k * 3, none⟩ = some (str (sA k))
  s1 : ∀ k, k < nS → W.cell? ⟨bSe, k * 3 + 1, none⟩ = some (str (sB k))
  s2 : ∀ k, k < nS → W.cell? ⟨bSe, k * 3 + 2, none⟩ = some (num (sK k))
  lI : ∀ k, mI k < 10
  lR : ∀ k, mR k < 10
  lA : ∀ k, sA k < 10
  lB : ∀ k, sB k < 10
  lK : ∀ k, sK k < 3
  inT : ∀ k, k < nM → (fI 105 (mI k)).getD 0 < T

/-- What newOrder gives back. -/
def NewPost (W0 : World) (bInd nR T nM nS kd : Nat) (rs mI mR sA sB sK : Nat → Nat) (fI : Nat → Nat → Option Nat) (e : Ending) (W' : World) : Prop :=
  ∃ B n₀ val, e = .returned (ptr B.ob) ∧ St W0 W' n₀ B bInd nR T rs (zsS (idx rs nR 114) T nR kd sA sB sK (zsM (idx rs nR 114) (fun a => (fI 105 a).getD 0) T mI mR nM) nS) val
    (sv (zsM (idx rs nR 114) (fun a => (fI 105 a).getD 0) T mI mR nM) T) (sq (zsM (idx rs nR 114) (fun a => (fI 105 a).getD 0) T mI mR nM) T)

theorem range16 (g : Nat → Value) : (List.range 16).map g = [g 0, g 1, g 2, g 3, g 4, g 5, g 6, g 7, g 8, g 9, g 10, g 11, g 12, g 13, g 14, g 15] := rfl
theorem MapIs.drewN {W : World} {b : Nat} {f : Nat → Nat → Option Nat} {sz N : Nat} (h : MapIs W b f sz N) (n : Nat) : MapIs (W.drewN n) b f sz N := h
theorem St.drewN {W0 W : World} {n₀ : Nat} {B : Blk} {bInd nR T : Nat} {rs : Nat → Nat} {zs : Nat → List Nat} {val : Nat → Value} {x : Nat} {q : Bool} (h : St W0 W n₀ B bInd nR T rs zs val x q) (n : Nat) : St W0 (W.drewN n) n₀ B bInd nR T rs zs val x q :=
  ⟨h.geo, h.row, h.nums, ⟨h.tabs.cell, h.tabs.frozen, h.tabs.low, h.tabs.own, h.tabs.apart, h.tabs.inj, h.tabs.size⟩, h.sev, ⟨h.low.os, h.low.tape, h.low.output, h.low.size, h.low.block⟩⟩
theorem St.cellO {W0 W : World} {n₀ : Nat} {B : Blk} {bInd nR T : Nat} {rs : Nat → Nat} {zs : Nat → List Nat} {val : Nat → Value} {x : Nat} {q : Bool} (h : St W0 W n₀ B bInd nR T rs zs val x q) (f : Nat) : W.cell? ⟨B.ob, f, none⟩ = (oCells B bInd nR T q)[f]? := h.row.cell f

noncomputable def code11 : Code := (Yba.f5.body.bind (fromR 11)).getD .skip
noncomputable def code18 : Code := (Yba.f5.body.bind (fromR 18)).getD .skip
noncomputable def code2 : Code := (Yba.f5.body.bind (fromR 2)).getD .skip

set_option maxRecDepth 1000000 in
set_option maxHeartbeats 8000000 in
theorem loop1 {W0 W : World} {n₀ : Nat} {B : Blk} {bRul kd bR nR bInd T N nM nS bM bSe : Nat} {rs mI mR sA sB sK : Nat → Nat} {fI : Nat → Nat → Option Nat} {rc : List Value} {val : Nat → Value} {u4 u5 u6 u7 u8 u10 u11 u12 u13 u14 u15 u16 u17 u18 u19 u20 u21 u22 u23 u24 u25 u26 u27 u28 u29 u30 u31 u32 u33 u34 u35 u36 u37 u38 u39 u40 u41 u42 u43 u44 u45 u46 u47 u48 u49 u50 u51 u52 u53 u54 u55 u56 u57 u58 u59 u60 u61 u62 u63 u64 u65 u66 u67 u68 u69 u70 u71 u72 u73 u74 u75 u76 u77 u78 u79 u80 u81 u82 u83 u84 u85 u86 u87 u88 u89 u90 u91 u92 u93 u94 u95 u96 u97 u98 u99 u100 u101 u102 u103 u104 u105 u106 u107 u108 u109 u110 u111 u112 u113 u114 u115 u116 u117 u118 u119 u120 u121 u122 u123 u124 u125 u126 u127 u128 u129 u130 u131 u132 u133 u134 u135 u136 u137 u138 u139 u140 u141 u142 u143 u144 u145 u146 u147 u148 u149 u150 u151 u152 u153 u154 u155 u156 u157 u158 u159 u160 u161 u162 u163 u164 u165 u166 u167 u168 u169 u170 u171 u172 u173 u174 u175 u176 u177 u178 u179 u180 u181 u182 u183 u184 u185 u186 u187 u188 u189 u190 u191 u192 u193 u194 u195 : Value} (G : Given W0 bRul bInd nR T N nM nS bM bSe mI mR sA sB sK fI rc) (h : St W0 W n₀ B bInd nR T rs (fun _ => []) val 0 false)
    (next : ∀ {u4 u5 u6 u7 u8 u10 u11 u12 u13 u14 u15 u16 u17 u18 u19 u20 u21 u22 u23 u24 u25 u26 u27 u28 u29 u30 u31 u32 u33 u34 u35 u36 u37 u38 u39 u40 u41 u42 u43 u44 u45 u46 u47 u48 u49 u50 u51 u52 u53 u54 u55 u56 u57 u58 u59 u60 u61 u62 u63 u64 u65 u66 u67 u68 u69 u70 u71 u72 u73 u74 u75 u76 u77 u78 u79 u80 u81 u82 u83 u84 u85 u86 u87 u88 u89 u90 u91 u92 u93 u94 u95 u96 u97 u98 u99 u100 u101 u102 u103 u104 u105 u106 u107 u108 u109 u110 u111 u112 u113 u114 u115 u116 u117 u118 u119 u120 u121 u122 u123 u124 u125 u126 u127 u128 u129 u130 u131 u132 u133 u134 u135 u136 u137 u138 u139 u140 u141 u142 u143 u144 u145 u146 u147 u148 u149 u150 u151 u152 u153 u154 u155 u156 u157 u158 u159 u160 u161 u162 u163 u164 u165 u166 u167 u168 u169 u170 u171 u172 u173 u174 u175 u176 u177 u178 u179 u180 u181 u182 u183 u184 u185 u186 u187 u188 u189 u190 u191 u192 u193 u194 u195 : Value} {W : World} {val : Nat → Value}, St W0 W n₀ B bInd nR T rs (zsM (idx rs nR 114) (fun a => (fI 105 a).getD 0) T mI mR nM) val 0 false → Code.wp Yba.prog code11 (bodyPost Yba.prog Yba.f5 (NewPost W0 bInd nR T nM nS kd rs mI mR sA sB sK fI)) ⟨#[ptr bRul, num kd, dn bR nR, .map (some bInd), u4, u5, u6, u7, u8, ptr B.ob, u10, u11, u12, u13, u14, u15, u16, u17, u18, u19, u20, u21, u22, u23, u24, u25, u26, u27, u28, u29, u30, u31, u32, u33, u34, u35, u36, u37, u38, u39, u40, u41, u42, u43, u44, u45, u46, u47, u48, u49, u50, u51, u52, u53, u54, u55, u56, u57, u58, u59, u60, u61, u62, u63, u64, u65, u66, u67, u68, u69, u70, u71, u72, u73, u74, u75, u76, u77, u78, u79, u80, u81, u82, u83, u84, u85, u86, u87, u88, u89, u90, u91, u92, u93, u94, u95, u96, u97, u98, u99, u100, u101, u102, u103, u104, u105, u106, u107, u108, u109, u110, u111, u112, u113, u114, u115, u116, u117, u118, u119, u120, u121, u122, u123, u124, u125, u126, u127, u128, u129, u130, u131, u132, u133, u134, u135, u136, u137, u138, u139, u140, u141, u142, u143, u144, u145, u146, u147, u148, u149, u150, u151, u152, u153, u154, u155, u156, u157, u158, u159, u160, u161, u162, u163, u164, u165, u166, u167, u168, u169, u170, u171, u172, u173, u174, u175, u176, u177, u178, u179, u180, u181, u182, u183, u184, u185, u186, u187, u188, u189, u190, u191, u192, u193, u194, u195], []⟩ W) :
    Code.wp Yba.prog code2 (bodyPost Yba.prog Yba.f5 (NewPost W0 bInd nR T nM nS kd rs mI mR sA sB sK fI)) ⟨#[ptr bRul, num kd, dn bR nR, .map (some bInd), u4, u5, u6, u7, u8, ptr B.ob, u10, u11, u12, u13, u14, u15, u16, u17, u18, u19, u20, u21, u22, u23, u24, u25, u26, u27, u28, u29, u30, u31, u32, u33, u34, u35, u36, u37, u38, u39, u40, u41, u42, u43, u44, u45, u46, u47, u48, u49, u50, u51, u52, u53, u54, u55, u56, u57, u58, u59, u60, u61, u62, u63, u64, u65, u66, u67, u68, u69, u70, u71, u72, u73, u74, u75, u76, u77, u78, u79, u80, u81, u82, u83, u84, u85, u86, u87, u88, u89, u90, u91, u92, u93, u94, u95, u96, u97, u98, u99, u100, u101, u102, u103, u104, u105, u106, u107, u108, u109, u110, u111, u112, u113, u114, u115, u116, u117, u118, u119, u120, u121, u122, u123, u124, u125, u126, u127, u128, u129, u130, u131, u132, u133, u134, u135, u136, u137, u138, u139, u140, u141, u142, u143, u144, u145, u146, u147, u148, u149, u150, u151, u152, u153, u154, u155, u156, u157, u158, u159, u160, u161, u162, u163, u164, u165, u166, u167, u168, u169, u170, u171, u172, u173, u174, u175, u176, u177, u178, u179, u180, u181, u182, u183, u184, u185, u186, u187, u188, u189, u190, u191, u192, u193, u194, u195], []⟩ W := by
  have hr3 := ((G.rul.below h.low G.rul.lt).cell 3).trans G.rc3
  have hnM := G.hnM
  have HG : Hid _ := G
  have HS : Hid _ := h
  have HN : Hid _ := @next
  clear G h next
  conv => arg 2; whnf
  refine wp_seq_k (fun K hK => ?_)
  have HK : Hid _ := hK
  clear hK
  go_upto_region 3 with fail
  go_loopw [48] (fun v wr => ∃ k val, k ≤ nM ∧ v = num k ∧ St W0 wr n₀ B bInd nR T rs (zsM (idx rs nR 114) (fun a => (fI 105 a).getD 0) T mI mR k) val 0 false) (fun v _ => nM - (intOf v).toNat)
  case atStart => exact ⟨0, val, Nat.zero_le _, rfl, HS.out⟩
  case round =>
    obtain ⟨k, val2, hk, rfl, hS⟩ := hrel
    clear HS hr3
    by_cases hlk : k < nM
    · have c0 := (hS.low.cell HG.out.ltM).trans (HG.out.m0 k hlk)
      have c1 := (hS.low.cell HG.out.ltM).trans (HG.out.m1 k hlk)
      have g1 : (k : Int) < (nM : Int) := by omega
      have HS : Hid _ := hS
      clear hS HN HK
      go_upto_region 5 with fail
      have hSV := HS.out.alloc (.cells #[.string (nm 105 (mI k)), .string (nm 114 (mR k))] 43)
      have hrow := Row.new wr 43 [.string (nm 105 (mI k)), .string (nm 114 (mR k))] _ rfl
      have y0 := hrow.cell 0
      have y1 := hrow.cell 1
      simp only [List.getElem?_cons_zero, List.getElem?_cons_succ] at y0 y1
      generalize hbv : wr.heap.size = bv at hrow y0 y1 ⊢
      generalize hV : World.alloc wr _ = V at hSV hrow y0 y1 ⊢
      clear hV hbv c0 c1 HS hrow
      have o0 := hSV.cellO 0
      have o4 := hSV.cellO 4
      simp only [oCells, List.getElem?_cons_zero, List.getElem?_cons_succ] at o0 o4
      have hl := fun n => (hSV.nums.drewN n).lookOk 114 (mR k) (by omega) (HG.out.lR k)
      have hli := fun n => ((HG.out.ind.below hSV.low HG.out.ind.lt).drewN n).look 105 (mI k) (by omega) (HG.out.lI k)
      have HS : Hid _ := hSV
      clear hSV
      cases hr : idx rs nR 114 (mR k) with
      | none =>
        simp only [hr, Option.getD_none, Option.isSome_none] at hl
        go_quiet (fail)
        go_wp2
        go_roundw
        case rel =>
          refine ⟨k + 1, val2, by omega, by simp, ?_⟩
          unfold zsM
          rw [hr]
          exact HS.out.drewN _
        case measure => simp [intOf]; omega
      | some r =>
        simp only [hr, Option.getD_some, Option.isSome_some] at hl
        go_quiet (fail)
        go_upto_region 8 with fail
        have hS1 := HS.out.drewN nq
        have hiT := HG.out.inT k hlk
        have hrn := idx_lt rs nR 114 (mR k) r hr
        have hlen := fun i => zsM_len (idx rs nR 114) (fun a => (fI 105 a).getD 0) T mI mR k i
        generalize hi : (fI 105 (mI k)).getD 0 = i at hiT hli ⊢
        clear o0 hl hli y0 y1
        refine append_region (s := 67) (f := 4) (iT := 14) (vT := 12) (p := "roles.go:40") rfl B.ob B.bH T i r n₀ i (T + nR + nR + nR) (ad B T nR) _ val2 (by show (83 : Nat) ≤ 196; omega) rfl rfl rfl (by omega) (by omega) (by omega) (by omega) hS1.tabs (by omega) (ad_H B T nR i hiT) hiT hS1.geo.hi.1 o4 (by have := hlen i; omega) ?_
        intro v1 w1 hA1
        have hS2 := hS1.drew.appended (j := i) (by omega) hA1
        rw [ad_H B T nR i hiT] at hS2
        generalize hV2 : World.setCell w1 _ _ = V2 at hS2 ⊢
        clear hV2 hA1 hS1 HS
        simp only [range16, putAll, apVals, List.setIfInBounds_toArray, List.set_cons_succ, List.set_cons_zero, Nat.reduceAdd]
        have o5 := hS2.cellO 5
        simp only [oCells, List.getElem?_cons_zero, List.getElem?_cons_succ] at o5
        go_upto_region 9 with fail
        refine append_region (s := 83) (f := 5) (iT := 12) (vT := 14) (p := "roles.go:41") rfl B.ob B.bL nR r i n₀ (T + r) (T + nR + nR + nR) (ad B T nR) _ _ (by show (99 : Nat) ≤ 196; omega) rfl rfl rfl (by omega) (by omega) (by omega) (by omega) hS2.tabs (by omega) (ad_L B T nR r hrn) hrn hS2.geo.hi.1 o5 (by have := hlen (T + r); have := snoc_len (zsM (idx rs nR 114) (fun a => (fI 105 a).getD 0) T mI mR k) i r (T + r); omega) ?_
        intro v2 w2 hA2
        have hS3 := hS2.drew.appended (j := T + r) (by omega) hA2
        rw [ad_L B T nR r hrn] at hS3
        generalize hV3 : World.setCell w2 _ _ = V3 at hS3 ⊢
        clear hV3 hA2 hS2
        simp only [range16, putAll, apVals, List.setIfInBounds_toArray, List.set_cons_succ, List.set_cons_zero, Nat.reduceAdd]
        go_wp2
        go_roundw
        case rel =>
          refine ⟨k + 1, setV (setV val2 i v1) (T + r) v2, by omega, by simp, ?_⟩
          unfold zsM
          rw [hr, hi]
          exact hS3
        case measure => simp [intOf]; omega
    · obtain rfl : k = nM := by omega
      go_wp2
      exact HK.out _ _ (HN.out hS)
end Order
end Go.Proofs.Ybulkcrmg
