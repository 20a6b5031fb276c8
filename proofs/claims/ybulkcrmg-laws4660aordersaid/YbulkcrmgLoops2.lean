/-
  newOrder's second and third loop.
-/
import Derived.Test.YbulkcrmgLoops
namespace Go.Proofs.Ybulkcrmg
open Go.RowKit
namespace Order
open Kit

theorem stS_false (T nR : Nat) (a b : Option Nat) (zs : Nat → List Nat) : stS T nR false a b zs = zs := by cases a <;> cases b <;> rfl
theorem stS_none (T nR : Nat) (b : Option Nat) (zs : Nat → List Nat) : stS T nR true none b zs = zs := by cases b <;> rfl
theorem stS_none2 (T nR : Nat) (a : Option Nat) (zs : Nat → List Nat) : stS T nR true a none zs = zs := by cases a <;> rfl
theorem own_shape3 {w : World} {n₀ k : Nat} {cv : Value} {cs : List Value} (h : w.ownsRow n₀ 3 1 cv k cs) : ∃ a cap, cv = .slice a k cap := by
  rcases h.2 with ⟨rfl, rfl⟩ | ⟨g, cap, cur, rfl, _⟩
  · exact ⟨none, 0, rfl⟩
  · exact ⟨_, cap, rfl⟩

theorem St.added {W0 W w1 : World} {n₀ : Nat} {B : Blk} {bInd nR T : Nat} {rs : Nat → Nat} {zs : Nat → List Nat} {val : Nat → Value} {x x' : Nat} {q : Bool} (h : St W0 W n₀ B bInd nR T rs zs val x q) (ho : Only B.bS W w1) (hr : Row w1 B.bS 59 (List.replicate ((T + 63) / 64) (.int .u64 (x' : Int)))) :
    St W0 (w1.setCell ⟨B.ob, 7, none⟩ (.bool true)) n₀ B bInd nR T rs zs val x' true := by
  have g := h.geo
  obtain ⟨i1, i2, i3, i4, i5, i6, i7⟩ := g.hi
  obtain ⟨l1, l2, l3, l4, l5, l6, l7⟩ := g.lo
  obtain ⟨o1, o2, o3, o4, o5, o6⟩ := g.o
  obtain ⟨m1, m2, m3, m4, m5⟩ := g.n
  obtain ⟨s1, s2, s3, s4⟩ := g.s
  have hO : Only B.ob w1 (w1.setCell ⟨B.ob, 7, none⟩ (.bool true)) := (Only.refl _ w1).setCell _ _
  have key : ∀ k, k ≠ B.bS → k ≠ B.ob → (w1.setCell ⟨B.ob, 7, none⟩ (.bool true)).heap[k]? = W.heap[k]? := fun k h1 h2 => (hO.block k h2).trans (ho.block k h1)
  have hg : W.grownBy (w1.setCell ⟨B.ob, 7, none⟩ (.bool true)) none → True := fun _ => trivial
  clear hg
  have hT := h.tabs
  have hb : ∀ j, (ad B T nR j).1 ≠ B.bS ∧ (ad B T nR j).1 ≠ B.ob := fun j => by
    rcases ad_mem B T nR j with e | e | e | e <;> rw [e]
    · exact ⟨Ne.symm s3, Ne.symm o3⟩
    · exact ⟨Ne.symm s4, Ne.symm o4⟩
    · exact ⟨Ne.symm s1, Ne.symm o1⟩
    · exact ⟨Ne.symm s2, Ne.symm o2⟩
  have hadd : ∀ j, (w1.setCell ⟨B.ob, 7, none⟩ (.bool true)).heap[(ad B T nR j).1]? = W.heap[(ad B T nR j).1]? := fun j => key _ (hb j).1 (hb j).2
  have hsz : (w1.setCell ⟨B.ob, 7, none⟩ (.bool true)).heap.size = W.heap.size := hO.size.trans ho.size
  refine ⟨g, ?_, ?_, ⟨fun j hj => (World.cell?_of_block (w := W) (hadd j)).trans (hT.cell j hj), fun j hj => (World.frozen?_of_block (w := W) (hadd j)).trans (hT.frozen j hj), hT.low, fun j hj => ?_, hT.apart, hT.inj, by rw [hsz]; exact hT.size⟩, hr.only hO (Ne.symm o5), ?_⟩
  · exact (h.row.only ho o5).set 7 (.bool true)
  · obtain ⟨n, D, e1, ⟨es, clock, e2, e3⟩, e4⟩ := h.nums
    exact ⟨n, D, e1, ⟨es, clock, (key _ m5 (Ne.symm o6)).trans e2, e3⟩, e4⟩
  · have hh := hT.own j hj
    rcases hh.2 with e | ⟨gg, cap, cur, e, hg, hc, r⟩
    · exact ⟨hh.1, .inl e⟩
    · exact ⟨hh.1, .inr ⟨gg, cap, cur, e, hg, (key gg (by omega) (by omega)).trans hc, r⟩⟩
  · have hlow := h.low
    exact ⟨hO.os.trans (ho.os.trans hlow.os), hO.tape.trans (ho.tape.trans hlow.tape), hO.output.trans (ho.output.trans hlow.output), by rw [hsz]; exact hlow.size, fun k hk => (key k (by omega) (by omega)).trans (hlow.block k hk)⟩

set_option maxRecDepth 1000000 in
set_option maxHeartbeats 8000000 in
theorem loop2 {W0 W : World} {n₀ : Nat} {B : Blk} {bRul kd bR nR bInd T N nM nS bM bSe : Nat} {rs mI mR sA sB sK : Nat → Nat} {fI : Nat → Nat → Option Nat} {rc : List Value} {val : Nat → Value} {u4 u5 u6 u7 u8 u10 u11 u12 u13 u14 u15 u16 u17 u18 u19 u20 u21 u22 u23 u24 u25 u26 u27 u28 u29 u30 u31 u32 u33 u34 u35 u36 u37 u38 u39 u40 u41 u42 u43 u44 u45 u46 u47 u48 u49 u50 u51 u52 u53 u54 u55 u56 u57 u58 u59 u60 u61 u62 u63 u64 u65 u66 u67 u68 u69 u70 u71 u72 u73 u74 u75 u76 u77 u78 u79 u80 u81 u82 u83 u84 u85 u86 u87 u88 u89 u90 u91 u92 u93 u94 u95 u96 u97 u98 u99 u100 u101 u102 u103 u104 u105 u106 u107 u108 u109 u110 u111 u112 u113 u114 u115 u116 u117 u118 u119 u120 u121 u122 u123 u124 u125 u126 u127 u128 u129 u130 u131 u132 u133 u134 u135 u136 u137 u138 u139 u140 u141 u142 u143 u144 u145 u146 u147 u148 u149 u150 u151 u152 u153 u154 u155 u156 u157 u158 u159 u160 u161 u162 u163 u164 u165 u166 u167 u168 u169 u170 u171 u172 u173 u174 u175 u176 u177 u178 u179 u180 u181 u182 u183 u184 u185 u186 u187 u188 u189 u190 u191 u192 u193 u194 u195 : Value} (G : Given W0 bRul bInd nR T N nM nS bM bSe mI mR sA sB sK fI rc) (h : St W0 W n₀ B bInd nR T rs (zsM (idx rs nR 114) (fun a => (fI 105 a).getD 0) T mI mR nM) val 0 false)
    (next : ∀ {u4 u5 u6 u7 u8 u10 u11 u12 u13 u14 u15 u16 u17 u18 u19 u20 u21 u22 u23 u24 u25 u26 u27 u28 u29 u30 u31 u32 u33 u34 u35 u36 u37 u38 u39 u40 u41 u42 u43 u44 u45 u46 u47 u48 u49 u50 u51 u52 u53 u54 u55 u56 u57 u58 u59 u60 u61 u62 u63 u64 u65 u66 u67 u68 u69 u70 u71 u72 u73 u74 u75 u76 u77 u78 u79 u80 u81 u82 u83 u84 u85 u86 u87 u88 u89 u90 u91 u92 u93 u94 u95 u96 u97 u98 u99 u100 u101 u102 u103 u104 u105 u106 u107 u108 u109 u110 u111 u112 u113 u114 u115 u116 u117 u118 u119 u120 u121 u122 u123 u124 u125 u126 u127 u128 u129 u130 u131 u132 u133 u134 u135 u136 u137 u138 u139 u140 u141 u142 u143 u144 u145 u146 u147 u148 u149 u150 u151 u152 u153 u154 u155 u156 u157 u158 u159 u160 u161 u162 u163 u164 u165 u166 u167 u168 u169 u170 u171 u172 u173 u174 u175 u176 u177 u178 u179 u180 u181 u182 u183 u184 u185 u186 u187 u188 u189 u190 u191 u192 u193 u194 u195 : Value} {W : World} {val : Nat → Value}, St W0 W n₀ B bInd nR T rs (zsM (idx rs nR 114) (fun a => (fI 105 a).getD 0) T mI mR nM) val (sv (zsM (idx rs nR 114) (fun a => (fI 105 a).getD 0) T mI mR nM) T) (sq (zsM (idx rs nR 114) (fun a => (fI 105 a).getD 0) T mI mR nM) T) → Code.wp Yba.prog code18 (bodyPost Yba.prog Yba.f5 (NewPost W0 bInd nR T nM nS kd rs mI mR sA sB sK fI)) ⟨#[ptr bRul, num kd, dn bR nR, .map (some bInd), u4, u5, u6, u7, u8, ptr B.ob, u10, u11, u12, u13, u14, u15, u16, u17, u18, u19, u20, u21, u22, u23, u24, u25, u26, u27, u28, u29, u30, u31, u32, u33, u34, u35, u36, u37, u38, u39, u40, u41, u42, u43, u44, u45, u46, u47, u48, u49, u50, u51, u52, u53, u54, u55, u56, u57, u58, u59, u60, u61, u62, u63, u64, u65, u66, u67, u68, u69, u70, u71, u72, u73, u74, u75, u76, u77, u78, u79, u80, u81, u82, u83, u84, u85, u86, u87, u88, u89, u90, u91, u92, u93, u94, u95, u96, u97, u98, u99, u100, u101, u102, u103, u104, u105, u106, u107, u108, u109, u110, u111, u112, u113, u114, u115, u116, u117, u118, u119, u120, u121, u122, u123, u124, u125, u126, u127, u128, u129, u130, u131, u132, u133, u134, u135, u136, u137, u138, u139, u140, u141, u142, u143, u144, u145, u146, u147, u148, u149, u150, u151, u152, u153, u154, u155, u156, u157, u158, u159, u160, u161, u162, u163, u164, u165, u166, u167, u168, u169, u170, u171, u172, u173, u174, u175, u176, u177, u178, u179, u180, u181, u182, u183, u184, u185, u186, u187, u188, u189, u190, u191, u192, u193, u194, u195], []⟩ W) :
    Code.wp Yba.prog code11 (bodyPost Yba.prog Yba.f5 (NewPost W0 bInd nR T nM nS kd rs mI mR sA sB sK fI)) ⟨#[ptr bRul, num kd, dn bR nR, .map (some bInd), u4, u5, u6, u7, u8, ptr B.ob, u10, u11, u12, u13, u14, u15, u16, u17, u18, u19, u20, u21, u22, u23, u24, u25, u26, u27, u28, u29, u30, u31, u32, u33, u34, u35, u36, u37, u38, u39, u40, u41, u42, u43, u44, u45, u46, u47, u48, u49, u50, u51, u52, u53, u54, u55, u56, u57, u58, u59, u60, u61, u62, u63, u64, u65, u66, u67, u68, u69, u70, u71, u72, u73, u74, u75, u76, u77, u78, u79, u80, u81, u82, u83, u84, u85, u86, u87, u88, u89, u90, u91, u92, u93, u94, u95, u96, u97, u98, u99, u100, u101, u102, u103, u104, u105, u106, u107, u108, u109, u110, u111, u112, u113, u114, u115, u116, u117, u118, u119, u120, u121, u122, u123, u124, u125, u126, u127, u128, u129, u130, u131, u132, u133, u134, u135, u136, u137, u138, u139, u140, u141, u142, u143, u144, u145, u146, u147, u148, u149, u150, u151, u152, u153, u154, u155, u156, u157, u158, u159, u160, u161, u162, u163, u164, u165, u166, u167, u168, u169, u170, u171, u172, u173, u174, u175, u176, u177, u178, u179, u180, u181, u182, u183, u184, u185, u186, u187, u188, u189, u190, u191, u192, u193, u194, u195], []⟩ W := by
  have o4 := h.cellO 4
  simp only [oCells, List.getElem?_cons_zero, List.getElem?_cons_succ] at o4
  have hT10 := G.hT
  have HS : Hid _ := h
  have HN : Hid _ := @next
  have hlen := fun i => zsM_len (idx rs nR 114) (fun a => (fI 105 a).getD 0) T mI mR nM i
  have hnM := G.hnM
  generalize hz : (zsM (idx rs nR 114) (fun a => (fI 105 a).getD 0) T mI mR nM) = zs at HS HN hlen
  clear G h next hz
  conv => arg 2; whnf
  refine wp_seq_k (fun K hK => ?_)
  have HK : Hid _ := hK
  clear hK
  go_upto_region 12 with fail
  go_loopw [105] (fun v wr => ∃ k val, k ≤ T ∧ v = num k ∧ St W0 wr n₀ B bInd nR T rs zs val (sv zs k) (sq zs k)) (fun v _ => T - (intOf v).toNat)
  case atStart => exact ⟨0, val, Nat.zero_le _, rfl, HS.out⟩
  case round =>
    obtain ⟨k, val2, hk, rfl, hS⟩ := hrel
    clear HS o4
    by_cases hlk : k < T
    · have c0 := hS.tabs.cell k (by omega)
      rw [ad_H B T nR k hlk] at c0
      obtain ⟨aa, cap, hsh⟩ := own_shape3 (hS.tabs.own k (by omega))
      rw [hsh] at c0
      have g1 : (k : Int) < (T : Int) := by omega
      have hlk2 := hlen k
      by_cases hbig : 1 < (zs k).length
      · have g2 : (1 : Int) < ((zs k).length : Int) := by omega
        have o6 := hS.cellO 6
        simp only [oCells, List.getElem?_cons_zero, List.getElem?_cons_succ] at o6
        have e1 : (T + 63) / 64 = 1 := by omega
        have hsev := hS.sev
        rw [e1] at o6 hsev
        have hx : sv zs k < 18446744073709551616 := Nat.lt_of_lt_of_le (sv_lt zs k) (Nat.le_trans (Nat.pow_le_pow_right (by omega) (show k ≤ 10 by omega)) (by omega))
        have HS : Hid _ := hS
        have HV : Hid _ := hsev
        clear hS hsev HN HK
        go_upto_region 16 with (go_at_call 8; refine (Add_ok B.bS k (sv zs k) (by omega) hx _ (by exact HV.out)).mono ?_; rintro e w1 ⟨⟨v, rfl⟩, ho, hr⟩)
        have hS2 := HS.out.added ho (x' := sv zs k ||| 2 ^ k) (by rw [e1]; exact hr)
        have rr := HS.out.row.only ho HS.out.geo.o.2.2.2.2.1
        have c7 := rr.cell 7
        have f7 := rr.frozen 7
        simp only [oCells, List.getElem?_cons_zero, List.getElem?_cons_succ] at c7
        have HS2 : Hid _ := hS2
        clear hS2 rr HS HV ho hr
        go_wp2
        go_roundw
        case rel =>
          refine ⟨k + 1, val2, by omega, by simp, ?_⟩
          unfold sv sq
          rw [if_pos hbig, if_pos hbig]
          exact HS2.out
        case measure => simp [intOf]; omega
      · have g2 : ¬ (1 : Int) < ((zs k).length : Int) := by omega
        have HS : Hid _ := hS
        clear hS HN HK
        go_wp2
        go_roundw
        case rel =>
          refine ⟨k + 1, val2, by omega, by simp, ?_⟩
          unfold sv sq
          rw [if_neg hbig, if_neg hbig]
          exact HS.out
        case measure => simp [intOf]; omega
    · obtain rfl : k = T := by omega
      go_wp2
      exact HK.out _ _ (HN.out hS)

set_option maxRecDepth 1000000 in
set_option maxHeartbeats 8000000 in
theorem loop3 {W0 W : World} {n₀ : Nat} {B : Blk} {bRul kd bR nR bInd T N nM nS bM bSe : Nat} {rs mI mR sA sB sK : Nat → Nat} {fI : Nat → Nat → Option Nat} {rc : List Value} {val : Nat → Value} {u4 u5 u6 u7 u8 u10 u11 u12 u13 u14 u15 u16 u17 u18 u19 u20 u21 u22 u23 u24 u25 u26 u27 u28 u29 u30 u31 u32 u33 u34 u35 u36 u37 u38 u39 u40 u41 u42 u43 u44 u45 u46 u47 u48 u49 u50 u51 u52 u53 u54 u55 u56 u57 u58 u59 u60 u61 u62 u63 u64 u65 u66 u67 u68 u69 u70 u71 u72 u73 u74 u75 u76 u77 u78 u79 u80 u81 u82 u83 u84 u85 u86 u87 u88 u89 u90 u91 u92 u93 u94 u95 u96 u97 u98 u99 u100 u101 u102 u103 u104 u105 u106 u107 u108 u109 u110 u111 u112 u113 u114 u115 u116 u117 u118 u119 u120 u121 u122 u123 u124 u125 u126 u127 u128 u129 u130 u131 u132 u133 u134 u135 u136 u137 u138 u139 u140 u141 u142 u143 u144 u145 u146 u147 u148 u149 u150 u151 u152 u153 u154 u155 u156 u157 u158 u159 u160 u161 u162 u163 u164 u165 u166 u167 u168 u169 u170 u171 u172 u173 u174 u175 u176 u177 u178 u179 u180 u181 u182 u183 u184 u185 u186 u187 u188 u189 u190 u191 u192 u193 u194 u195 : Value} (G : Given W0 bRul bInd nR T N nM nS bM bSe mI mR sA sB sK fI rc) (h : St W0 W n₀ B bInd nR T rs (zsM (idx rs nR 114) (fun a => (fI 105 a).getD 0) T mI mR nM) val (sv (zsM (idx rs nR 114) (fun a => (fI 105 a).getD 0) T mI mR nM) T) (sq (zsM (idx rs nR 114) (fun a => (fI 105 a).getD 0) T mI mR nM) T)) :
    Code.wp Yba.prog code18 (bodyPost Yba.prog Yba.f5 (NewPost W0 bInd nR T nM nS kd rs mI mR sA sB sK fI)) ⟨#[ptr bRul, num kd, dn bR nR, .map (some bInd), u4, u5, u6, u7, u8, ptr B.ob, u10, u11, u12, u13, u14, u15, u16, u17, u18, u19, u20, u21, u22, u23, u24, u25, u26, u27, u28, u29, u30, u31, u32, u33, u34, u35, u36, u37, u38, u39, u40, u41, u42, u43, u44, u45, u46, u47, u48, u49, u50, u51, u52, u53, u54, u55, u56, u57, u58, u59, u60, u61, u62, u63, u64, u65, u66, u67, u68, u69, u70, u71, u72, u73, u74, u75, u76, u77, u78, u79, u80, u81, u82, u83, u84, u85, u86, u87, u88, u89, u90, u91, u92, u93, u94, u95, u96, u97, u98, u99, u100, u101, u102, u103, u104, u105, u106, u107, u108, u109, u110, u111, u112, u113, u114, u115, u116, u117, u118, u119, u120, u121, u122, u123, u124, u125, u126, u127, u128, u129, u130, u131, u132, u133, u134, u135, u136, u137, u138, u139, u140, u141, u142, u143, u144, u145, u146, u147, u148, u149, u150, u151, u152, u153, u154, u155, u156, u157, u158, u159, u160, u161, u162, u163, u164, u165, u166, u167, u168, u169, u170, u171, u172, u173, u174, u175, u176, u177, u178, u179, u180, u181, u182, u183, u184, u185, u186, u187, u188, u189, u190, u191, u192, u193, u194, u195], []⟩ W := by
  have hr4 := ((G.rul.below h.low G.rul.lt).cell 4).trans G.rc4
  have hnS := G.hnS
  have hnM := G.hnM
  have HG : Hid _ := G
  have HS : Hid _ := h
  clear G h
  obtain ⟨X, hX⟩ : ∃ X, (sv (zsM (idx rs nR 114) (fun a => (fI 105 a).getD 0) T mI mR nM) T) = X := ⟨_, rfl⟩
  obtain ⟨Y, hY⟩ : ∃ Y, (sq (zsM (idx rs nR 114) (fun a => (fI 105 a).getD 0) T mI mR nM) T) = Y := ⟨_, rfl⟩
  have hlen := fun k i => zsS_len (idx rs nR 114) T nR kd sA sB sK (zsM (idx rs nR 114) (fun a => (fI 105 a).getD 0) T mI mR nM) (2 * nM) (fun i => zsM_len (idx rs nR 114) (fun a => (fI 105 a).getD 0) T mI mR nM i) k i
  conv => arg 2; whnf
  go_upto_region 19 with fail
  go_loopw [128] (fun v wr => ∃ k val, k ≤ nS ∧ v = num k ∧ St W0 wr n₀ B bInd nR T rs (zsS (idx rs nR 114) T nR kd sA sB sK (zsM (idx rs nR 114) (fun a => (fI 105 a).getD 0) T mI mR nM) k) val X Y) (fun v _ => nS - (intOf v).toNat)
  case atStart => exact ⟨0, val, Nat.zero_le _, rfl, hX ▸ hY ▸ HS.out⟩
  case round =>
    obtain ⟨k, val2, hk, rfl, hS⟩ := hrel
    clear HS hr4
    by_cases hlk : k < nS
    · have c0 := (hS.low.cell HG.out.ltS).trans (HG.out.s0 k hlk)
      have c1 := (hS.low.cell HG.out.ltS).trans (HG.out.s1 k hlk)
      have c2 := (hS.low.cell HG.out.ltS).trans (HG.out.s2 k hlk)
      have g1 : (k : Int) < (nS : Int) := by omega
      have HS : Hid _ := hS
      clear hS
      go_upto_region 21 with fail
      have hSV := HS.out.alloc (.cells #[.string (nm 114 (sA k)), .string (nm 114 (sB k)), .int .i64 (sK k)] 49)
      have hrow := Row.new wr 49 [.string (nm 114 (sA k)), .string (nm 114 (sB k)), .int .i64 (sK k)] _ rfl
      have y0 := hrow.cell 0
      have y1 := hrow.cell 1
      have y2 := hrow.cell 2
      simp only [List.getElem?_cons_zero, List.getElem?_cons_succ] at y0 y1 y2
      generalize hbv : wr.heap.size = bv at hrow y0 y1 y2 ⊢
      generalize hV : World.alloc wr _ = V at hSV hrow y0 y1 y2 ⊢
      clear hV hbv c0 c1 c2 HS hrow
      have o0 := hSV.cellO 0
      have o2 := hSV.cellO 2
      simp only [oCells, List.getElem?_cons_zero, List.getElem?_cons_succ] at o0 o2
      have hl := fun n => (hSV.nums.drewN n).lookOk 114 (sA k) (by omega) (HG.out.lA k)
      have hl2 := fun n => (hSV.nums.drewN n).lookOk 114 (sB k) (by omega) (HG.out.lB k)
      have HS : Hid _ := hSV
      clear hSV
      by_cases hK : sK k = kd
      · have gk : ((sK k : Int) == (kd : Int)) = true := by simp [hK]
        cases hA : idx rs nR 114 (sA k) with
        | none =>
          simp only [hA, Option.getD_none, Option.isSome_none] at hl
          go_quiet (fail)
          go_upto_region 22 with fail
          go_quiet (fail)
          go_wp2
          go_roundw
          case rel =>
            refine ⟨k + 1, val2, by omega, by simp, ?_⟩
            unfold zsS
            rw [hA, decide_eq_true hK, stS_none]
            exact HS.out.drewN _
          case measure => simp [intOf]; omega
        | some a =>
          simp only [hA, Option.getD_some, Option.isSome_some] at hl
          cases hB : idx rs nR 114 (sB k) with
          | none =>
            simp only [hB, Option.getD_none, Option.isSome_none] at hl2
            go_quiet (fail)
            go_upto_region 22 with fail
            go_quiet (fail)
            go_wp2
            go_roundw
            case rel =>
              refine ⟨k + 1, val2, by omega, by simp, ?_⟩
              unfold zsS
              rw [hA, hB, decide_eq_true hK, stS_none2]
              exact HS.out.drewN _
            case measure => simp [intOf]; omega
          | some b =>
            simp only [hB, Option.getD_some, Option.isSome_some] at hl2
            go_quiet (fail)
            go_upto_region 22 with fail
            go_quiet (fail)
            go_upto_region 24 with fail
            generalize hVq : V.drewN _ = Vq
            have hS1 : St W0 Vq n₀ B bInd nR T rs (zsS (idx rs nR 114) T nR kd sA sB sK (zsM (idx rs nR 114) (fun a => (fI 105 a).getD 0) T mI mR nM) k) val2 X Y := by rw [← hVq]; exact HS.out.drewN _
            clear o2
            have o2 := hS1.cellO 2
            simp only [oCells, List.getElem?_cons_zero, List.getElem?_cons_succ] at o2
            have han := idx_lt rs nR 114 (sA k) a hA
            have hbn := idx_lt rs nR 114 (sB k) b hB
            clear o0 hl hl2 y0 y1 y2 HS
            refine append_region (s := 162) (f := 2) (iT := 19) (vT := 21) (p := "roles.go:54") rfl B.ob B.bB nR a b n₀ (T + nR + a) (T + nR + nR + nR) (ad B T nR) _ val2 (by show (178 : Nat) ≤ 196; omega) rfl rfl rfl (by omega) (by omega) (by omega) (by omega) hS1.tabs (by omega) (ad_B B T nR a han) han hS1.geo.hi.1 o2 (by have := hlen k (T + nR + a); omega) ?_
            intro v1 w1 hA1
            have hS2 := hS1.drew.appended (j := T + nR + a) (by omega) hA1
            rw [ad_B B T nR a han] at hS2
            generalize hV2 : World.setCell w1 _ _ = V2 at hS2 ⊢
            clear hV2 hA1 hS1 o2
            simp only [range16, putAll, apVals, List.setIfInBounds_toArray, List.set_cons_succ, List.set_cons_zero, Nat.reduceAdd]
            have o3 := hS2.cellO 3
            simp only [oCells, List.getElem?_cons_zero, List.getElem?_cons_succ] at o3
            go_upto_region 25 with fail
            refine append_region (s := 178) (f := 3) (iT := 21) (vT := 19) (p := "roles.go:55") rfl B.ob B.bA nR b a n₀ (T + nR + nR + b) (T + nR + nR + nR) (ad B T nR) _ _ (by show (194 : Nat) ≤ 196; omega) rfl rfl rfl (by omega) (by omega) (by omega) (by omega) hS2.tabs (by omega) (ad_A B T nR b) hbn hS2.geo.hi.1 o3 (by have := hlen k (T + nR + nR + b); have := snoc_len (zsS (idx rs nR 114) T nR kd sA sB sK (zsM (idx rs nR 114) (fun a => (fI 105 a).getD 0) T mI mR nM) k) (T + nR + a) b (T + nR + nR + b); omega) ?_
            intro v2 w2 hA2
            have hS3 := hS2.drew.appended (j := T + nR + nR + b) (by omega) hA2
            rw [ad_A B T nR b] at hS3
            generalize hV3 : World.setCell w2 _ _ = V3 at hS3 ⊢
            clear hV3 hA2 hS2 o3
            simp only [range16, putAll, apVals, List.setIfInBounds_toArray, List.set_cons_succ, List.set_cons_zero, Nat.reduceAdd]
            go_wp2
            go_roundw
            case rel =>
              refine ⟨k + 1, setV (setV val2 (T + nR + a) v1) (T + nR + nR + b) v2, by omega, by simp, ?_⟩
              unfold zsS
              rw [hA, hB, decide_eq_true hK]
              exact hS3
            case measure => simp [intOf]; omega
      · have gk : ((sK k : Int) == (kd : Int)) = false := by simp; omega
        go_quiet (fail)
        go_upto_region 22 with fail
        go_quiet (fail)
        go_wp2
        go_roundw
        case rel =>
          refine ⟨k + 1, val2, by omega, by simp, ?_⟩
          unfold zsS
          rw [decide_eq_false hK, stS_false]
          exact HS.out.drewN _
        case measure => simp [intOf]; omega
    · obtain rfl : k = nS := by omega
      go_wp2
      go_ret
      exact ⟨B, n₀, val2, rfl, hX ▸ hY ▸ hS⟩
end Order
end Go.Proofs.Ybulkcrmg
