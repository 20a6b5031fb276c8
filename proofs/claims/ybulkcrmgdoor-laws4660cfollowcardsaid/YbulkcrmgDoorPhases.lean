/-
  LawS4660CFollow: the three checks of the targets (regions 28 .. 42), each as a declaration of its own.
-/
import Derived.Test.YbulkcrmgDoorEnd
namespace Go.Proofs.YbulkcrmgDoor
open Go.RowKit
namespace Follow
open Kit

/-- What a check reads. -/
structure Ph (W : World) (r bM bF bO bW n : Nat) (q : Bool) (o v : Nat → Nat) : Prop where
  role : IsRole W r bM bF n q
  hM : Row W bM 36 (((List.range n).map (fun j => o j ||| v j)).map u)
  hF : Row W bF 36 (((List.range n).map (fun j => 9223372036854775808 ||| andn (v j) (o j))).map u)
  hO : Row W bO 36 (((List.range n).map o).map u)
  hW : Row W bW 36 (((List.range n).map v).map u)
  ho : ∀ i, o i < 18446744073709551616
  hv : ∀ i, v i < 18446744073709551616
theorem Ph.below {X : Nat} {W W' : World} {r bM bF bO bW n : Nat} {q : Bool} {o v : Nat → Nat} (h : Ph W r bM bF bO bW n q o v) (hb : Below X W W') (hr : r < X) (h1 : bM < X) (h2 : bF < X) (h3 : bO < X) (h4 : bW < X) : Ph W' r bM bF bO bW n q o v := by
  obtain ⟨⟨rc, a1, a2⟩, b1, b2, b3, b4, b5, b6⟩ := h
  exact ⟨⟨rc, a1.below hb hr, a2⟩, b1.below hb h1, b2.below hb h2, b3.below hb h3, b4.below hb h4, b5, b6⟩
/-- What the end of the law reads. -/
structure Fin (W w : World) (B m bud n₀ n₁ : Nat) (aC : Option Addr) (lC : Nat) (fC : Nat → Nat) (a' : Option Addr) (c' : Nat) (oc : List Value) (cv : Value) (cs : List Value) : Prop where
  rC : Reads B W aC lC fC
  hm : IsMem W m bud cv
  hcv : W.ownsRow n₀ 23 1 cv cs.length cs
  ho : Row W (B + 9) 34 oc
  o5 : oc[5]? = some (.slice a' lC c')
  o9 : oc[9]? = some (.slice none 0 0)
  o12 : oc[12]? = some (.bool false)
  sC : Src W (B + 10) a' lC fC
  hW : Below B w W
  lts : B + 9 < n₁ ∧ m < n₁ ∧ (∀ b, cv.ownBlock = some b → b < n₁) ∧ (∀ x, a' = some x → x.block < n₁) ∧ n₁ ≤ W.heap.size
theorem Fin.below {W W' w : World} {B m bud n₀ n₁ : Nat} {aC : Option Addr} {lC : Nat} {fC : Nat → Nat} {a' : Option Addr} {c' : Nat} {oc : List Value} {cv : Value} {cs : List Value} (h : Fin W w B m bud n₀ n₁ aC lC fC a' c' oc cv cs) (hb : Below n₁ W W') : Fin W' w B m bud n₀ n₁ aC lC fC a' c' oc cv cs := by
  obtain ⟨a1, ⟨mc, m1, m2⟩, a3, a4, a5, a6, a7, a8, a9, l1, l2, l3, l4, l5⟩ := h
  exact ⟨a1.below (hb.mono (by omega)), ⟨mc, m1.below hb l2, m2⟩, own_below a3 hb l3, a4.below hb l1, a5, a6, a7, a8.below hb l4, a9.trans (hb.mono (by omega)), l1, l2, l3, l4, Nat.le_trans l5 hb.size⟩

noncomputable def code38 : Code := (Ybad.f3.body.bind (fromR 38)).getD .skip

set_option maxRecDepth 1000000 in
set_option maxHeartbeats 8000000 in
theorem tail38 {aC : Option Addr} {lC cC : Nat} {fC : Nat → Nat} {w W : World} {B Z n m bud n₀ n₁ : Nat} {a' : Option Addr} {c' : Nat} {oc : List Value} {cv ev : Value} {es cs : List Value} {qH : Bool} {o v : Nat → Nat} {u0 u1 u2 u3 u5 u6 u8 u9 u10 u11 u12 u13 u14 u15 u16 u17 u20 u21 u24 u25 u27 u29 u30 u33 u34 u35 u36 u37 u38 u39 u40 u41 u42 u43 u44 u45 u46 u47 u48 u49 u50 u51 u52 u53 u54 u55 u56 u57 u58 u59 u60 u61 u62 u63 u64 u65 u66 u67 u68 u69 u70 u71 u72 u73 u74 u75 u76 u77 u78 u79 u80 u81 u82 u83 u84 u85 u86 u87 u88 u89 u90 u91 u92 u93 u94 u95 u96 u97 u98 u99 u100 u101 u102 u103 u104 u105 u106 u107 u108 u109 u110 u111 u112 u113 u114 u115 u116 u117 u118 u119 u120 u121 u122 u123 u124 u125 u126 u127 u128 u129 u130 u131 u132 u133 u134 u135 u136 u137 u138 u139 u140 u141 u142 u143 u144 u145 u146 u147 u148 u149 u150 u151 u152 u153 u154 u155 u156 u157 u158 u159 u160 u161 u162 u163 u164 u165 u166 u167 u168 u169 u170 u171 u172 u173 u174 u175 u176 u177 u178 u179 u180 u181 u182 u183 u184 u185 u186 u187 u188 u189 u190 u191 u192 u193 u194 u195 u196 u197 u198 u199 u200 u201 u202 u203 u204 u205 u206 u207 u208 u209 u210 u211 u212 u213 u214 u215 u216 u217 u218 u219 u220 u221 u222 u223 u224 u225 u226 u227 u228 u229 u230 u231 u232 u233 u234 u235 u236 u237 u238 u239 u240 u241 u242 u243 u244 u245 u246 u247 u248 u249 u250 u251 u252 u253 u254 u255 u256 u257 u258 u259 u260 u261 u262 u263 u264 u265 u266 u267 u268 u269 u270 u271 u272 u273 u274 u275 u276 u277 u278 u279 u280 u281 u282 u283 u284 u285 u286 u287 u288 u289 u290 u291 u292 u293 u294 u295 u296 u297 u298 u299 u300 u301 u302 u303 u304 u305 u306 u307 u308 u309 u310 u311 u312 u313 u314 u315 u316 u317 u318 u319 u320 u321 u322 u323 u324 u325 u326 u327 u328 u329 u330 u331 u332 u333 u334 u335 u336 u337 u338 u339 u340 u341 u342 u343 u344 u345 u346 u347 u348 u349 : Value}
    (hlC : lC ≤ 1024) (hn : n ≤ 512) (hf : Fin W w B m bud n₀ n₁ aC lC fC a' c' oc cv cs) (hev : W.ownsRow n₁ 23 1 ev es.length es) (hes : es.length ≤ 2) (hcs : cs = more (!qH && added o v n) es (ptr (B + 6))) (hp : ∀ v ∈ es, ∃ b, v = ptr b)
    (h2 : Ph W (B + 6) (B + 7) (B + 8) (Z + 2) (Z + 4) n (qH || added o v n) o v) :
    Code.wp Ybad.prog code38 (bodyPost Ybad.prog Ybad.f3 (fun e w' => e = .returned (.bool true) ∧ Below B w w')) ⟨#[u0, u1, u2, u3, .slice aC lC cC, u5, u6, .bool qH, u8, u9, u10, u11, u12, u13, u14, u15, u16, u17, .bool false, .int .i64 n, u20, u21, ptr (B + 6), ptr (B + 9), u24, u25, dn (Z + 2) n, u27, dn (Z + 4) n, u29, u30, ptr m, ev, u33, u34, u35, u36, u37, u38, u39, u40, u41, u42, u43, u44, u45, u46, u47, u48, u49, u50, u51, u52, u53, u54, u55, u56, u57, u58, u59, u60, u61, u62, u63, u64, u65, u66, u67, u68, u69, u70, u71, u72, u73, u74, u75, u76, u77, u78, u79, u80, u81, u82, u83, u84, u85, u86, u87, u88, u89, u90, u91, u92, u93, u94, u95, u96, u97, u98, u99, u100, u101, u102, u103, u104, u105, u106, u107, u108, u109, u110, u111, u112, u113, u114, u115, u116, u117, u118, u119, u120, u121, u122, u123, u124, u125, u126, u127, u128, u129, u130, u131, u132, u133, u134, u135, u136, u137, u138, u139, u140, u141, u142, u143, u144, u145, u146, u147, u148, u149, u150, u151, u152, u153, u154, u155, u156, u157, u158, u159, u160, u161, u162, u163, u164, u165, u166, u167, u168, u169, u170, u171, u172, u173, u174, u175, u176, u177, u178, u179, u180, u181, u182, u183, u184, u185, u186, u187, u188, u189, u190, u191, u192, u193, u194, u195, u196, u197, u198, u199, u200, u201, u202, u203, u204, u205, u206, u207, u208, u209, u210, u211, u212, u213, u214, u215, u216, u217, u218, u219, u220, u221, u222, u223, u224, u225, u226, u227, u228, u229, u230, u231, u232, u233, u234, u235, u236, u237, u238, u239, u240, u241, u242, u243, u244, u245, u246, u247, u248, u249, u250, u251, u252, u253, u254, u255, u256, u257, u258, u259, u260, u261, u262, u263, u264, u265, u266, u267, u268, u269, u270, u271, u272, u273, u274, u275, u276, u277, u278, u279, u280, u281, u282, u283, u284, u285, u286, u287, u288, u289, u290, u291, u292, u293, u294, u295, u296, u297, u298, u299, u300, u301, u302, u303, u304, u305, u306, u307, u308, u309, u310, u311, u312, u313, u314, u315, u316, u317, u318, u319, u320, u321, u322, u323, u324, u325, u326, u327, u328, u329, u330, u331, u332, u333, u334, u335, u336, u337, u338, u339, u340, u341, u342, u343, u344, u345, u346, u347, u348, u349], []⟩ W := by
  obtain ⟨ad, had⟩ : ∃ ad, added o v n = ad := ⟨_, rfl⟩
  rw [had] at hcs h2
  obtain ⟨q', hq'⟩ : ∃ q', (qH || ad) = q' := ⟨_, rfl⟩
  rw [hq'] at h2
  have c12 : W.cell? ⟨B + 6, 12, none⟩ = some (.bool q') := by obtain ⟨⟨rc, a1, _, _, _, _, _, a6⟩, _⟩ := h2; exact (a1.cell 12).trans a6
  have HF : Hid _ := hf
  have HE : Hid (W.ownsRow n₁ 23 1 ev es.length es ∧ (∀ v ∈ es, ∃ b, v = ptr b)) := ⟨hev, hp⟩
  have H2 : Hid (Ph W (B + 6) (B + 7) (B + 8) (Z + 2) (Z + 4) n q' o v) := h2
  have HA : Hid _ := had
  obtain ⟨i23, hi0, hz0, hz1, hz2⟩ := info_parts Ybad.info23
  clear hf hev hp h2 had
  cases qH <;> cases ad <;> simp only [Bool.or_true, Bool.or_false, Bool.not_true, Bool.not_false, Bool.and_true, Bool.and_false, more] at hq' hcs <;> subst hq' <;> subst hcs
  all_goals
    conv => arg 2; whnf
    go_upto_if 277 with (go_at_call 8; refine (check_ok (B + 6) (B + 7) (B + 8) (Z + 2) (Z + 4) n _ o v W hn H2.out.ho H2.out.hv H2.out.role H2.out.hM H2.out.hF H2.out.hO H2.out.hW).mono ?_; rintro e W1 ⟨rfl, d, rfl⟩; rw [HA.out])
  · refine wp_cond_false rfl (wp_skip ?_)
    rename_i hK
    have hb : Below n₁ W (W.drewN d) := ⟨rfl, rfl, rfl, Nat.le_refl _, fun _ _ => rfl⟩
    have hF := Fin.below HF.out hb
    exact hK _ _ (tail43 hlC hF.rC hF.hm hF.hcv (by exact HE.out.1) (by omega) HE.out.2 hF.ho hF.o5 hF.o9 hF.o12 hF.sC hF.hW)
  · have hsz := HF.out.lts.2.2.2.2
    have HX : Hid (((W.drewN d).alloc (.cells #[ptr (B + 6)] 23)).ownsRow n₁ 23 1 ev es.length es ∧ (∀ j u, [ptr (B + 6)][j]? = some u → ((W.drewN d).alloc (.cells #[ptr (B + 6)] 23)).cell? ((⟨(W.drewN d).heap.size, 0, none⟩ : Addr).add j) = some u) ∧ n₁ ≤ ((W.drewN d).alloc (.cells #[ptr (B + 6)] 23)).heap.size) :=
      ⟨World.ownsRow.alloc (w := W.drewN d) (by exact HE.out.1) _, cell_one_new (W.drewN d) (ptr (B + 6)) 23, by rw [World.size_alloc]; exact Nat.le_trans hsz (Nat.le_succ _)⟩
    go_cut [32] (fun v wx => wx.ownsRow n₁ 23 1 v (es.length + 1) (es ++ [ptr (B + 6)]) ∧ Below n₁ W wx)
    case first =>
      go_wp2_with (at_builtin; refine wpList_append_own_at _ rfl _ _ 30 rfl n₁ 23 i23 _ 1 8 Ybad.underlying30 hi0 hz0 hz1 hz2 rfl (by decide) _ es.length es rfl HX.out.1 ⟨(W.drewN d).heap.size, 0, none⟩ 1 1 [ptr (B + 6)] rfl rfl HX.out.2.1 (by simp [Value.oneCell']) (by unfold maxLen; omega) (by omega) HX.out.2.2 ?_; intro v' w1 hown' hgrow hnil hlies; have HW : Hid _ := And.intro hown' hgrow; clear hown' hgrow hnil hlies)
      go_meet
      have hgrow : ((W.drewN d).alloc (.cells #[ptr (B + 6)] 23)).grownBy w1 ev.ownBlock := HW.out.2
      exact ⟨HW.out.1, (Below.trans (⟨rfl, rfl, rfl, Nat.le_refl _, fun _ _ => rfl⟩ : Below n₁ W (W.drewN d)) ((Below.refl n₁ (W.drewN d)).alloc hsz _)).grown hgrow (Nat.le_trans hsz (by rw [World.size_alloc]; exact Nat.le_succ _)) (fun k e => (own_block HX.out.1 e).1)⟩
    case rest =>
      obtain ⟨hown, hb⟩ := hcut
      have hF := Fin.below HF.out hb
      rename_i hK
      refine hK _ _ (tail43 hlC hF.rC hF.hm hF.hcv (by simpa using hown) (by simp; omega) (fun v hv => ?_) hF.ho hF.o5 hF.o9 hF.o12 hF.sC hF.hW)
      rcases List.mem_append.1 hv with h | h
      · exact HE.out.2 v h
      · simp at h; exact ⟨_, h⟩
  · refine wp_cond_false rfl (wp_skip ?_)
    rename_i hK
    have hb : Below n₁ W (W.drewN d) := ⟨rfl, rfl, rfl, Nat.le_refl _, fun _ _ => rfl⟩
    have hF := Fin.below HF.out hb
    exact hK _ _ (tail43 hlC hF.rC hF.hm hF.hcv (by exact HE.out.1) (by omega) HE.out.2 hF.ho hF.o5 hF.o9 hF.o12 hF.sC hF.hW)
  · refine wp_cond_false rfl (wp_skip ?_)
    rename_i hK
    have hb : Below n₁ W (W.drewN d) := ⟨rfl, rfl, rfl, Nat.le_refl _, fun _ _ => rfl⟩
    have hF := Fin.below HF.out hb
    exact hK _ _ (tail43 hlC hF.rC hF.hm hF.hcv (by exact HE.out.1) (by omega) HE.out.2 hF.ho hF.o5 hF.o9 hF.o12 hF.sC hF.hW)

noncomputable def code33 : Code := (Ybad.f3.body.bind (fromR 33)).getD .skip

set_option maxRecDepth 1000000 in
set_option maxHeartbeats 8000000 in
theorem tail33 {aC : Option Addr} {lC cC : Nat} {fC : Nat → Nat} {w W : World} {B Z n m bud n₀ n₁ : Nat} {a' : Option Addr} {c' : Nat} {oc : List Value} {cv ev : Value} {es es1 cs : List Value} {qB : Bool} {o v : Nat → Nat} {qH : Bool} {oH vH : Nat → Nat} {u0 u1 u2 u3 u5 u8 u9 u10 u11 u12 u13 u14 u15 u16 u17 u20 u24 u29 u30 u33 u34 u35 u36 u37 u38 u39 u40 u41 u42 u43 u44 u45 u46 u47 u48 u49 u50 u51 u52 u53 u54 u55 u56 u57 u58 u59 u60 u61 u62 u63 u64 u65 u66 u67 u68 u69 u70 u71 u72 u73 u74 u75 u76 u77 u78 u79 u80 u81 u82 u83 u84 u85 u86 u87 u88 u89 u90 u91 u92 u93 u94 u95 u96 u97 u98 u99 u100 u101 u102 u103 u104 u105 u106 u107 u108 u109 u110 u111 u112 u113 u114 u115 u116 u117 u118 u119 u120 u121 u122 u123 u124 u125 u126 u127 u128 u129 u130 u131 u132 u133 u134 u135 u136 u137 u138 u139 u140 u141 u142 u143 u144 u145 u146 u147 u148 u149 u150 u151 u152 u153 u154 u155 u156 u157 u158 u159 u160 u161 u162 u163 u164 u165 u166 u167 u168 u169 u170 u171 u172 u173 u174 u175 u176 u177 u178 u179 u180 u181 u182 u183 u184 u185 u186 u187 u188 u189 u190 u191 u192 u193 u194 u195 u196 u197 u198 u199 u200 u201 u202 u203 u204 u205 u206 u207 u208 u209 u210 u211 u212 u213 u214 u215 u216 u217 u218 u219 u220 u221 u222 u223 u224 u225 u226 u227 u228 u229 u230 u231 u232 u233 u234 u235 u236 u237 u238 u239 u240 u241 u242 u243 u244 u245 u246 u247 u248 u249 u250 u251 u252 u253 u254 u255 u256 u257 u258 u259 u260 u261 u262 u263 u264 u265 u266 u267 u268 u269 u270 u271 u272 u273 u274 u275 u276 u277 u278 u279 u280 u281 u282 u283 u284 u285 u286 u287 u288 u289 u290 u291 u292 u293 u294 u295 u296 u297 u298 u299 u300 u301 u302 u303 u304 u305 u306 u307 u308 u309 u310 u311 u312 u313 u314 u315 u316 u317 u318 u319 u320 u321 u322 u323 u324 u325 u326 u327 u328 u329 u330 u331 u332 u333 u334 u335 u336 u337 u338 u339 u340 u341 u342 u343 u344 u345 u346 u347 u348 u349 : Value}
    (hlC : lC ≤ 1024) (hn : n ≤ 512) (hz : Z + 4 < n₁) (hbz : B + 10 ≤ Z) (hf : Fin W w B m bud n₀ n₁ aC lC fC a' c' oc cv cs) (hev : W.ownsRow n₁ 23 1 ev es.length es) (hes : es.length ≤ 1) (hcs : es1 = more (!qB && added o v n) es (ptr (B + 3))) (hp : ∀ v ∈ es, ∃ b, v = ptr b)
    (h2 : Ph W (B + 3) (B + 4) (B + 5) (Z + 1) (Z + 3) n (qB || added o v n) o v) (hC3 : cs = more (!qH && added oH vH n) es1 (ptr (B + 6))) (h3 : Ph W (B + 6) (B + 7) (B + 8) (Z + 2) (Z + 4) n (qH || added oH vH n) oH vH) :
    Code.wp Ybad.prog code33 (bodyPost Ybad.prog Ybad.f3 (fun e w' => e = .returned (.bool true) ∧ Below B w w')) ⟨#[u0, u1, u2, u3, .slice aC lC cC, u5, .bool qB, .bool qH, u8, u9, u10, u11, u12, u13, u14, u15, u16, u17, .bool false, .int .i64 n, u20, ptr (B + 3), ptr (B + 6), ptr (B + 9), u24, dn (Z + 1) n, dn (Z + 2) n, dn (Z + 3) n, dn (Z + 4) n, u29, u30, ptr m, ev, u33, u34, u35, u36, u37, u38, u39, u40, u41, u42, u43, u44, u45, u46, u47, u48, u49, u50, u51, u52, u53, u54, u55, u56, u57, u58, u59, u60, u61, u62, u63, u64, u65, u66, u67, u68, u69, u70, u71, u72, u73, u74, u75, u76, u77, u78, u79, u80, u81, u82, u83, u84, u85, u86, u87, u88, u89, u90, u91, u92, u93, u94, u95, u96, u97, u98, u99, u100, u101, u102, u103, u104, u105, u106, u107, u108, u109, u110, u111, u112, u113, u114, u115, u116, u117, u118, u119, u120, u121, u122, u123, u124, u125, u126, u127, u128, u129, u130, u131, u132, u133, u134, u135, u136, u137, u138, u139, u140, u141, u142, u143, u144, u145, u146, u147, u148, u149, u150, u151, u152, u153, u154, u155, u156, u157, u158, u159, u160, u161, u162, u163, u164, u165, u166, u167, u168, u169, u170, u171, u172, u173, u174, u175, u176, u177, u178, u179, u180, u181, u182, u183, u184, u185, u186, u187, u188, u189, u190, u191, u192, u193, u194, u195, u196, u197, u198, u199, u200, u201, u202, u203, u204, u205, u206, u207, u208, u209, u210, u211, u212, u213, u214, u215, u216, u217, u218, u219, u220, u221, u222, u223, u224, u225, u226, u227, u228, u229, u230, u231, u232, u233, u234, u235, u236, u237, u238, u239, u240, u241, u242, u243, u244, u245, u246, u247, u248, u249, u250, u251, u252, u253, u254, u255, u256, u257, u258, u259, u260, u261, u262, u263, u264, u265, u266, u267, u268, u269, u270, u271, u272, u273, u274, u275, u276, u277, u278, u279, u280, u281, u282, u283, u284, u285, u286, u287, u288, u289, u290, u291, u292, u293, u294, u295, u296, u297, u298, u299, u300, u301, u302, u303, u304, u305, u306, u307, u308, u309, u310, u311, u312, u313, u314, u315, u316, u317, u318, u319, u320, u321, u322, u323, u324, u325, u326, u327, u328, u329, u330, u331, u332, u333, u334, u335, u336, u337, u338, u339, u340, u341, u342, u343, u344, u345, u346, u347, u348, u349], []⟩ W := by
  obtain ⟨ad, had⟩ : ∃ ad, added o v n = ad := ⟨_, rfl⟩
  rw [had] at hcs h2
  obtain ⟨q', hq'⟩ : ∃ q', (qB || ad) = q' := ⟨_, rfl⟩
  rw [hq'] at h2
  have c12 : W.cell? ⟨B + 3, 12, none⟩ = some (.bool q') := by obtain ⟨⟨rc, a1, _, _, _, _, _, a6⟩, _⟩ := h2; exact (a1.cell 12).trans a6
  have HF : Hid _ := hf
  have HE : Hid (W.ownsRow n₁ 23 1 ev es.length es ∧ (∀ v ∈ es, ∃ b, v = ptr b)) := ⟨hev, hp⟩
  have H2 : Hid (Ph W (B + 3) (B + 4) (B + 5) (Z + 1) (Z + 3) n q' o v) := h2
  have HA : Hid _ := had
  obtain ⟨i23, hi0, hz0, hz1, hz2⟩ := info_parts Ybad.info23
  clear hf hev hp h2 had
  cases qB <;> cases ad <;> simp only [Bool.or_true, Bool.or_false, Bool.not_true, Bool.not_false, Bool.and_true, Bool.and_false, more] at hq' hcs <;> subst hq' <;> subst hcs
  all_goals
    conv => arg 2; whnf
    go_upto_if 247 with (go_at_call 8; refine (check_ok (B + 3) (B + 4) (B + 5) (Z + 1) (Z + 3) n _ o v W hn H2.out.ho H2.out.hv H2.out.role H2.out.hM H2.out.hF H2.out.hO H2.out.hW).mono ?_; rintro e W1 ⟨rfl, d, rfl⟩; rw [HA.out])
  · refine wp_cond_false rfl (wp_skip ?_)
    rename_i hK
    have hb : Below n₁ W (W.drewN d) := ⟨rfl, rfl, rfl, Nat.le_refl _, fun _ _ => rfl⟩
    have hF := Fin.below HF.out hb
    exact hK _ _ (tail38 hlC hn hF (by exact HE.out.1) (by omega) hC3 HE.out.2 (h3.below hb (by omega) (by omega) (by omega) (by omega) (by omega)))
  · have hsz := HF.out.lts.2.2.2.2
    have HX : Hid (((W.drewN d).alloc (.cells #[ptr (B + 3)] 23)).ownsRow n₁ 23 1 ev es.length es ∧ (∀ j u, [ptr (B + 3)][j]? = some u → ((W.drewN d).alloc (.cells #[ptr (B + 3)] 23)).cell? ((⟨(W.drewN d).heap.size, 0, none⟩ : Addr).add j) = some u) ∧ n₁ ≤ ((W.drewN d).alloc (.cells #[ptr (B + 3)] 23)).heap.size) :=
      ⟨World.ownsRow.alloc (w := W.drewN d) (by exact HE.out.1) _, cell_one_new (W.drewN d) (ptr (B + 3)) 23, by rw [World.size_alloc]; exact Nat.le_trans hsz (Nat.le_succ _)⟩
    go_cut [32] (fun v wx => wx.ownsRow n₁ 23 1 v (es.length + 1) (es ++ [ptr (B + 3)]) ∧ Below n₁ W wx)
    case first =>
      go_wp2_with (at_builtin; refine wpList_append_own_at _ rfl _ _ 30 rfl n₁ 23 i23 _ 1 8 Ybad.underlying30 hi0 hz0 hz1 hz2 rfl (by decide) _ es.length es rfl HX.out.1 ⟨(W.drewN d).heap.size, 0, none⟩ 1 1 [ptr (B + 3)] rfl rfl HX.out.2.1 (by simp [Value.oneCell']) (by unfold maxLen; omega) (by omega) HX.out.2.2 ?_; intro v' w1 hown' hgrow hnil hlies; have HW : Hid _ := And.intro hown' hgrow; clear hown' hgrow hnil hlies)
      go_meet
      have hgrow : ((W.drewN d).alloc (.cells #[ptr (B + 3)] 23)).grownBy w1 ev.ownBlock := HW.out.2
      exact ⟨HW.out.1, (Below.trans (⟨rfl, rfl, rfl, Nat.le_refl _, fun _ _ => rfl⟩ : Below n₁ W (W.drewN d)) ((Below.refl n₁ (W.drewN d)).alloc hsz _)).grown hgrow (Nat.le_trans hsz (by rw [World.size_alloc]; exact Nat.le_succ _)) (fun k e => (own_block HX.out.1 e).1)⟩
    case rest =>
      obtain ⟨hown, hb⟩ := hcut
      have hF := Fin.below HF.out hb
      rename_i hK
      have hpp : ∀ v ∈ es ++ [ptr (B + 3)], ∃ b, v = ptr b := by
        intro v hv
        rcases List.mem_append.1 hv with h | h
        · exact HE.out.2 v h
        · simp at h; exact ⟨_, h⟩
      exact hK _ _ (tail38 hlC hn hF (by simpa using hown) (by simp; omega) hC3 hpp (h3.below hb (by omega) (by omega) (by omega) (by omega) (by omega)))
  · refine wp_cond_false rfl (wp_skip ?_)
    rename_i hK
    have hb : Below n₁ W (W.drewN d) := ⟨rfl, rfl, rfl, Nat.le_refl _, fun _ _ => rfl⟩
    have hF := Fin.below HF.out hb
    exact hK _ _ (tail38 hlC hn hF (by exact HE.out.1) (by omega) hC3 HE.out.2 (h3.below hb (by omega) (by omega) (by omega) (by omega) (by omega)))
  · refine wp_cond_false rfl (wp_skip ?_)
    rename_i hK
    have hb : Below n₁ W (W.drewN d) := ⟨rfl, rfl, rfl, Nat.le_refl _, fun _ _ => rfl⟩
    have hF := Fin.below HF.out hb
    exact hK _ _ (tail38 hlC hn hF (by exact HE.out.1) (by omega) hC3 HE.out.2 (h3.below hb (by omega) (by omega) (by omega) (by omega) (by omega)))

noncomputable def code28 : Code := (Ybad.f3.body.bind (fromR 28)).getD .skip

set_option maxRecDepth 1000000 in
set_option maxHeartbeats 8000000 in
theorem tail28 {aC : Option Addr} {lC cC : Nat} {fC : Nat → Nat} {w W : World} {B Z n m bud n₀ n₁ : Nat} {a' : Option Addr} {c' : Nat} {oc : List Value} {cv ev : Value} {es es1 cs : List Value} {qA : Bool} {o v : Nat → Nat} {qB qH : Bool} {oB vB oH vH : Nat → Nat} {es2 : List Value} {u0 u1 u2 u3 u8 u9 u10 u11 u12 u13 u14 u15 u16 u17 u29 u30 u33 u34 u35 u36 u37 u38 u39 u40 u41 u42 u43 u44 u45 u46 u47 u48 u49 u50 u51 u52 u53 u54 u55 u56 u57 u58 u59 u60 u61 u62 u63 u64 u65 u66 u67 u68 u69 u70 u71 u72 u73 u74 u75 u76 u77 u78 u79 u80 u81 u82 u83 u84 u85 u86 u87 u88 u89 u90 u91 u92 u93 u94 u95 u96 u97 u98 u99 u100 u101 u102 u103 u104 u105 u106 u107 u108 u109 u110 u111 u112 u113 u114 u115 u116 u117 u118 u119 u120 u121 u122 u123 u124 u125 u126 u127 u128 u129 u130 u131 u132 u133 u134 u135 u136 u137 u138 u139 u140 u141 u142 u143 u144 u145 u146 u147 u148 u149 u150 u151 u152 u153 u154 u155 u156 u157 u158 u159 u160 u161 u162 u163 u164 u165 u166 u167 u168 u169 u170 u171 u172 u173 u174 u175 u176 u177 u178 u179 u180 u181 u182 u183 u184 u185 u186 u187 u188 u189 u190 u191 u192 u193 u194 u195 u196 u197 u198 u199 u200 u201 u202 u203 u204 u205 u206 u207 u208 u209 u210 u211 u212 u213 u214 u215 u216 u217 u218 u219 u220 u221 u222 u223 u224 u225 u226 u227 u228 u229 u230 u231 u232 u233 u234 u235 u236 u237 u238 u239 u240 u241 u242 u243 u244 u245 u246 u247 u248 u249 u250 u251 u252 u253 u254 u255 u256 u257 u258 u259 u260 u261 u262 u263 u264 u265 u266 u267 u268 u269 u270 u271 u272 u273 u274 u275 u276 u277 u278 u279 u280 u281 u282 u283 u284 u285 u286 u287 u288 u289 u290 u291 u292 u293 u294 u295 u296 u297 u298 u299 u300 u301 u302 u303 u304 u305 u306 u307 u308 u309 u310 u311 u312 u313 u314 u315 u316 u317 u318 u319 u320 u321 u322 u323 u324 u325 u326 u327 u328 u329 u330 u331 u332 u333 u334 u335 u336 u337 u338 u339 u340 u341 u342 u343 u344 u345 u346 u347 u348 u349 : Value}
    (hlC : lC ≤ 1024) (hn : n ≤ 512) (hz : Z + 4 < n₁) (hbz : B + 10 ≤ Z) (hf : Fin W w B m bud n₀ n₁ aC lC fC a' c' oc cv cs) (hev : W.ownsRow n₁ 23 1 ev es.length es) (hes : es.length ≤ 0) (hcs : es1 = more (!qA && added o v n) es (ptr B)) (hp : ∀ v ∈ es, ∃ b, v = ptr b)
    (h2 : Ph W B (B + 1) (B + 2) Z (Z + 3) n (qA || added o v n) o v) (hC4 : es2 = more (!qB && added oB vB n) es1 (ptr (B + 3))) (h4 : Ph W (B + 3) (B + 4) (B + 5) (Z + 1) (Z + 3) n (qB || added oB vB n) oB vB) (hC3 : cs = more (!qH && added oH vH n) es2 (ptr (B + 6))) (h3 : Ph W (B + 6) (B + 7) (B + 8) (Z + 2) (Z + 4) n (qH || added oH vH n) oH vH) :
    Code.wp Ybad.prog code28 (bodyPost Ybad.prog Ybad.f3 (fun e w' => e = .returned (.bool true) ∧ Below B w w')) ⟨#[u0, u1, u2, u3, .slice aC lC cC, .bool qA, .bool qB, .bool qH, u8, u9, u10, u11, u12, u13, u14, u15, u16, u17, .bool false, .int .i64 n, ptr B, ptr (B + 3), ptr (B + 6), ptr (B + 9), dn Z n, dn (Z + 1) n, dn (Z + 2) n, dn (Z + 3) n, dn (Z + 4) n, u29, u30, ptr m, ev, u33, u34, u35, u36, u37, u38, u39, u40, u41, u42, u43, u44, u45, u46, u47, u48, u49, u50, u51, u52, u53, u54, u55, u56, u57, u58, u59, u60, u61, u62, u63, u64, u65, u66, u67, u68, u69, u70, u71, u72, u73, u74, u75, u76, u77, u78, u79, u80, u81, u82, u83, u84, u85, u86, u87, u88, u89, u90, u91, u92, u93, u94, u95, u96, u97, u98, u99, u100, u101, u102, u103, u104, u105, u106, u107, u108, u109, u110, u111, u112, u113, u114, u115, u116, u117, u118, u119, u120, u121, u122, u123, u124, u125, u126, u127, u128, u129, u130, u131, u132, u133, u134, u135, u136, u137, u138, u139, u140, u141, u142, u143, u144, u145, u146, u147, u148, u149, u150, u151, u152, u153, u154, u155, u156, u157, u158, u159, u160, u161, u162, u163, u164, u165, u166, u167, u168, u169, u170, u171, u172, u173, u174, u175, u176, u177, u178, u179, u180, u181, u182, u183, u184, u185, u186, u187, u188, u189, u190, u191, u192, u193, u194, u195, u196, u197, u198, u199, u200, u201, u202, u203, u204, u205, u206, u207, u208, u209, u210, u211, u212, u213, u214, u215, u216, u217, u218, u219, u220, u221, u222, u223, u224, u225, u226, u227, u228, u229, u230, u231, u232, u233, u234, u235, u236, u237, u238, u239, u240, u241, u242, u243, u244, u245, u246, u247, u248, u249, u250, u251, u252, u253, u254, u255, u256, u257, u258, u259, u260, u261, u262, u263, u264, u265, u266, u267, u268, u269, u270, u271, u272, u273, u274, u275, u276, u277, u278, u279, u280, u281, u282, u283, u284, u285, u286, u287, u288, u289, u290, u291, u292, u293, u294, u295, u296, u297, u298, u299, u300, u301, u302, u303, u304, u305, u306, u307, u308, u309, u310, u311, u312, u313, u314, u315, u316, u317, u318, u319, u320, u321, u322, u323, u324, u325, u326, u327, u328, u329, u330, u331, u332, u333, u334, u335, u336, u337, u338, u339, u340, u341, u342, u343, u344, u345, u346, u347, u348, u349], []⟩ W := by
  obtain ⟨ad, had⟩ : ∃ ad, added o v n = ad := ⟨_, rfl⟩
  rw [had] at hcs h2
  obtain ⟨q', hq'⟩ : ∃ q', (qA || ad) = q' := ⟨_, rfl⟩
  rw [hq'] at h2
  have c12 : W.cell? ⟨B, 12, none⟩ = some (.bool q') := by obtain ⟨⟨rc, a1, _, _, _, _, _, a6⟩, _⟩ := h2; exact (a1.cell 12).trans a6
  have HF : Hid _ := hf
  have HE : Hid (W.ownsRow n₁ 23 1 ev es.length es ∧ (∀ v ∈ es, ∃ b, v = ptr b)) := ⟨hev, hp⟩
  have H2 : Hid (Ph W B (B + 1) (B + 2) Z (Z + 3) n q' o v) := h2
  have HA : Hid _ := had
  obtain ⟨i23, hi0, hz0, hz1, hz2⟩ := info_parts Ybad.info23
  clear hf hev hp h2 had
  cases qA <;> cases ad <;> simp only [Bool.or_true, Bool.or_false, Bool.not_true, Bool.not_false, Bool.and_true, Bool.and_false, more] at hq' hcs <;> subst hq' <;> subst hcs
  all_goals
    conv => arg 2; whnf
    go_upto_if 217 with (go_at_call 8; refine (check_ok B (B + 1) (B + 2) Z (Z + 3) n _ o v W hn H2.out.ho H2.out.hv H2.out.role H2.out.hM H2.out.hF H2.out.hO H2.out.hW).mono ?_; rintro e W1 ⟨rfl, d, rfl⟩; rw [HA.out])
  · refine wp_cond_false rfl (wp_skip ?_)
    rename_i hK
    have hb : Below n₁ W (W.drewN d) := ⟨rfl, rfl, rfl, Nat.le_refl _, fun _ _ => rfl⟩
    have hF := Fin.below HF.out hb
    exact hK _ _ (tail33 hlC hn hz hbz hF (by exact HE.out.1) (by omega) hC4 HE.out.2 (h4.below hb (by omega) (by omega) (by omega) (by omega) (by omega)) hC3 (h3.below hb (by omega) (by omega) (by omega) (by omega) (by omega)))
  · have hsz := HF.out.lts.2.2.2.2
    have HX : Hid (((W.drewN d).alloc (.cells #[ptr B] 23)).ownsRow n₁ 23 1 ev es.length es ∧ (∀ j u, [ptr B][j]? = some u → ((W.drewN d).alloc (.cells #[ptr B] 23)).cell? ((⟨(W.drewN d).heap.size, 0, none⟩ : Addr).add j) = some u) ∧ n₁ ≤ ((W.drewN d).alloc (.cells #[ptr B] 23)).heap.size) :=
      ⟨World.ownsRow.alloc (w := W.drewN d) (by exact HE.out.1) _, cell_one_new (W.drewN d) (ptr B) 23, by rw [World.size_alloc]; exact Nat.le_trans hsz (Nat.le_succ _)⟩
    go_cut [32] (fun v wx => wx.ownsRow n₁ 23 1 v (es.length + 1) (es ++ [ptr B]) ∧ Below n₁ W wx)
    case first =>
      go_wp2_with (at_builtin; refine wpList_append_own_at _ rfl _ _ 30 rfl n₁ 23 i23 _ 1 8 Ybad.underlying30 hi0 hz0 hz1 hz2 rfl (by decide) _ es.length es rfl HX.out.1 ⟨(W.drewN d).heap.size, 0, none⟩ 1 1 [ptr B] rfl rfl HX.out.2.1 (by simp [Value.oneCell']) (by unfold maxLen; omega) (by omega) HX.out.2.2 ?_; intro v' w1 hown' hgrow hnil hlies; have HW : Hid _ := And.intro hown' hgrow; clear hown' hgrow hnil hlies)
      go_meet
      have hgrow : ((W.drewN d).alloc (.cells #[ptr B] 23)).grownBy w1 ev.ownBlock := HW.out.2
      exact ⟨HW.out.1, (Below.trans (⟨rfl, rfl, rfl, Nat.le_refl _, fun _ _ => rfl⟩ : Below n₁ W (W.drewN d)) ((Below.refl n₁ (W.drewN d)).alloc hsz _)).grown hgrow (Nat.le_trans hsz (by rw [World.size_alloc]; exact Nat.le_succ _)) (fun k e => (own_block HX.out.1 e).1)⟩
    case rest =>
      obtain ⟨hown, hb⟩ := hcut
      have hF := Fin.below HF.out hb
      rename_i hK
      have hpp : ∀ v ∈ es ++ [ptr B], ∃ b, v = ptr b := by
        intro v hv
        rcases List.mem_append.1 hv with h | h
        · exact HE.out.2 v h
        · simp at h; exact ⟨_, h⟩
      exact hK _ _ (tail33 hlC hn hz hbz hF (by simpa using hown) (by rw [List.length_append, List.length_singleton]; omega) hC4 hpp (h4.below hb (by omega) (by omega) (by omega) (by omega) (by omega)) hC3 (h3.below hb (by omega) (by omega) (by omega) (by omega) (by omega)))
  · refine wp_cond_false rfl (wp_skip ?_)
    rename_i hK
    have hb : Below n₁ W (W.drewN d) := ⟨rfl, rfl, rfl, Nat.le_refl _, fun _ _ => rfl⟩
    have hF := Fin.below HF.out hb
    exact hK _ _ (tail33 hlC hn hz hbz hF (by exact HE.out.1) (by omega) hC4 HE.out.2 (h4.below hb (by omega) (by omega) (by omega) (by omega) (by omega)) hC3 (h3.below hb (by omega) (by omega) (by omega) (by omega) (by omega)))
  · refine wp_cond_false rfl (wp_skip ?_)
    rename_i hK
    have hb : Below n₁ W (W.drewN d) := ⟨rfl, rfl, rfl, Nat.le_refl _, fun _ _ => rfl⟩
    have hF := Fin.below HF.out hb
    exact hK _ _ (tail33 hlC hn hz hbz hF (by exact HE.out.1) (by omega) hC4 HE.out.2 (h4.below hb (by omega) (by omega) (by omega) (by omega) (by omega)) hC3 (h3.below hb (by omega) (by omega) (by omega) (by omega) (by omega)))
end Follow
end Go.Proofs.YbulkcrmgDoor
