/-
  LawS4660CFollow: helpers; the end of the law, from region 43 on, as a declaration of its own.
-/
import Derived.Test.YbulkcrmgDoorPure
namespace Go.Proofs.YbulkcrmgDoor
open Go.RowKit
namespace Follow
open Kit

theorem Reads.up {n₀ n₁ : Nat} {w : World} {a : Option Addr} {len : Nat} {f : Nat → Nat} (h : Reads n₀ w a len f) (hn : n₀ ≤ n₁) : Reads n₁ w a len f := fun hp => by
  obtain ⟨b, off, e, hlt, hc⟩ := h hp
  exact ⟨b, off, e, by omega, hc⟩
theorem row_reads' {w : World} {b n : Nat} {g : Nat → Nat} (h : Row w b 36 (((List.range n).map g).map u)) : Reads (b + 1) w (some ⟨b, 0, none⟩) n g := fun _ => ⟨b, 0, rfl, by omega, fun j hj => by rw [Nat.zero_add]; exact row_at h hj⟩

theorem row_clone {w : World} {b n : Nat} {g : Nat → Nat} (h : Row w b 36 ((List.range n).map (fun i => u (g i)))) : Row w b 36 (((List.range n).map g).map u) := by rw [List.map_map]; exact h
theorem src_row {w : World} {b n lo : Nat} {g : Nat → Nat} (h : Row w b 36 (((List.range n).map g).map u)) (hb : lo ≤ b) : Src w lo (some ⟨b, 0, none⟩) n g :=
  ⟨(row_reads' h).up h.lt, fun x e => by cases e; exact ⟨hb, _, h⟩⟩
theorem src_nil (w : World) (lo : Nat) (g : Nat → Nat) : Src w lo none 0 g := ⟨fun h => by omega, fun x e => by cases e⟩

theorem Src.below {X : Nat} {W W' : World} {lo : Nat} {a : Option Addr} {len : Nat} {f : Nat → Nat} (h : Src W lo a len f) (hb : Below X W W') (hx : ∀ x, a = some x → x.block < X) : Src W' lo a len f := by
  refine ⟨fun hp => ?_, fun x e => ?_⟩
  · obtain ⟨b, off, e, hlt, hc⟩ := h.1 hp
    have := hx _ e
    exact ⟨b, off, e, Nat.lt_of_lt_of_le hlt hb.size, fun i hi => (hb.cell (p := ⟨b, off + i, none⟩) this).trans (hc i hi)⟩
  · obtain ⟨h1, c, hc⟩ := h.2 x e
    exact ⟨h1, c, (hb.block _ (hx x e)).trans hc⟩
theorem Src.lt {W : World} {lo : Nat} {a : Option Addr} {len : Nat} {f : Nat → Nat} (h : Src W lo a len f) (x : Addr) (e : a = some x) : x.block < W.heap.size := by
  obtain ⟨_, c, hc⟩ := h.2 x e
  exact (Array.getElem?_eq_some_iff.1 hc).1

/-- What the law has made ahead of follow. -/
structure Q1 (W : World) (B Z n : Nat) (S0 S1 SH : List Nat × List Nat × Bool) (oA oB oH : Nat → Nat) (oc : List Value) (a : Option Addr) (len : Nat) (f : Nat → Nat) : Prop where
  t0 : Tg W B (B + 1) (B + 2) n S0
  t1 : Tg W (B + 3) (B + 4) (B + 5) n S1
  th : Tg W (B + 6) (B + 7) (B + 8) n SH
  ro : Row W (B + 9) 34 oc
  srcC : Src W (B + 10) a len f
  lt : ∀ x, a = some x → x.block < Z
  old0 : Row W Z 36 (((List.range n).map oA).map u)
  old1 : Row W (Z + 1) 36 (((List.range n).map oB).map u)
  oldH : Row W (Z + 2) 36 (((List.range n).map oH).map u)
  bz : B + 10 ≤ Z
theorem Q1.below {X : Nat} {W W' : World} {B Z n : Nat} {S0 S1 SH : List Nat × List Nat × Bool} {oA oB oH : Nat → Nat} {oc : List Value} {a : Option Addr} {len : Nat} {f : Nat → Nat} (h : Q1 W B Z n S0 S1 SH oA oB oH oc a len f) (hb : Below X W W') (hx : Z + 3 ≤ X) : Q1 W' B Z n S0 S1 SH oA oB oH oc a len f := by
  have hz := h.bz
  exact ⟨h.t0.below hb (by omega) (by omega) (by omega), h.t1.below hb (by omega) (by omega) (by omega), h.th.below hb (by omega) (by omega) (by omega), h.ro.below hb (by omega), h.srcC.below hb (fun x e => by have := h.lt x e; omega), h.lt, h.old0.below hb (by omega), h.old1.below hb (by omega), h.oldH.below hb (by omega), h.bz⟩


theorem Src.mono {W : World} {lo lo' : Nat} {a : Option Addr} {len : Nat} {f : Nat → Nat} (h : Src W lo a len f) (hl : lo' ≤ lo) : Src W lo' a len f :=
  ⟨h.1, fun x e => by obtain ⟨h1, h2⟩ := h.2 x e; exact ⟨by omega, h2⟩⟩


/-- What stands of a code from its region k on. -/
def fromR (k : Nat) : Code → Option Code
  | .region i o b => if i = k then some (.region i o b) else none
  | .seq a b => match fromR k a with
    | some c => some (.seq c b)
    | none => fromR k b
  | _ => none
noncomputable def code43 : Code := (Ybad.f3.body.bind (fromR 43)).getD .skip

theorem Fr.below {bs : List Nat} {cv : Value} {W W' : World} {X : Nat} (h : Fr bs (.slice none 0 0) cv W W') (hb : ∀ b ∈ bs, X ≤ b) (hX : X ≤ W.heap.size) : Below X W W' :=
  ⟨h.os, h.tape, h.output, h.size, fun k hk => by
    have hlt : k < W.heap.size := by omega
    have e : W.heap[k]? = some W.heap[k] := Array.getElem?_eq_getElem hlt
    rw [e]
    exact h.block k _ e (fun hm => by have := hb k hm; omega) (by simp [Value.ownBlock])⟩
theorem own_shape {w : World} {n₀ k : Nat} {cv : Value} {cs : List Value} (h : w.ownsRow n₀ 23 1 cv k cs) : ∃ a cap, cv = .slice a k cap ∧ (0 < k → ∃ g, a = some ⟨g, 0, none⟩) := by
  rcases h.2 with ⟨rfl, rfl⟩ | ⟨g, cap, cur, rfl, _⟩
  · exact ⟨none, 0, rfl, fun h => by omega⟩
  · exact ⟨_, cap, rfl, fun _ => ⟨g, rfl⟩⟩
theorem own_below {w w' : World} {n₀ k X : Nat} {cv : Value} {cs : List Value} (h : w.ownsRow n₀ 23 1 cv k cs) (hb : Below X w w') (hx : ∀ b, cv.ownBlock = some b → b < X) : w'.ownsRow n₀ 23 1 cv k cs := by
  refine ⟨h.1, ?_⟩
  rcases h.2 with h2 | ⟨g, cap, cur, rfl, hg, hc, r⟩
  · exact .inl h2
  · exact .inr ⟨g, cap, cur, rfl, hg, (hb.block g (hx g rfl)).trans hc, r⟩
theorem own_lt {w : World} {n₀ k : Nat} {cv : Value} {cs : List Value} (h : w.ownsRow n₀ 23 1 cv k cs) (b : Nat) (e : cv.ownBlock = some b) : b < w.heap.size := by
  obtain ⟨_, c, hc⟩ := own_block h e
  exact (Array.getElem?_eq_some_iff.1 hc).1
theorem info34 : (Ybad.prog.info? 34).isSome = true := by kernel_rfl
theorem neqPtr (b : Nat) (w : World) : (binOp .neq 23 (ptr b) (ptr b)).run Ybad.prog w = .ok (.bool false) w := by
  obtain ⟨j, hj⟩ := Option.isSome_iff_exists.1 info34
  exact run_neq_ptr_same w _ Ybad.underlying23 hj
theorem add_at (g k : Nat) : (⟨g, 0, none⟩ : Addr).add k = ⟨g, k, none⟩ := by cases k <;> simp [Addr.add]
theorem neqSlice (w : World) : (binOp .neq 22 (.slice none 0 0) (.slice none 0 0)).run Ybad.prog w = .ok (.bool false) w := by kernel_rfl

set_option maxRecDepth 1000000 in
set_option maxHeartbeats 8000000 in
theorem tail43 {aC : Option Addr} {lC cC : Nat} {fC : Nat → Nat} {w W : World} {B m bud n₀ n₁ : Nat} {a' : Option Addr} {c' : Nat} {oc : List Value} {cv ev : Value} {cs : List Value} {u0 u1 u2 u3 u5 u6 u7 u8 u9 u10 u11 u12 u13 u14 u15 u16 u17 u19 u20 u21 u22 u24 u25 u26 u27 u28 u29 u30 u33 u34 u35 u36 u37 u38 u39 u40 u41 u42 u43 u44 u45 u46 u47 u48 u49 u50 u51 u52 u53 u54 u55 u56 u57 u58 u59 u60 u61 u62 u63 u64 u65 u66 u67 u68 u69 u70 u71 u72 u73 u74 u75 u76 u77 u78 u79 u80 u81 u82 u83 u84 u85 u86 u87 u88 u89 u90 u91 u92 u93 u94 u95 u96 u97 u98 u99 u100 u101 u102 u103 u104 u105 u106 u107 u108 u109 u110 u111 u112 u113 u114 u115 u116 u117 u118 u119 u120 u121 u122 u123 u124 u125 u126 u127 u128 u129 u130 u131 u132 u133 u134 u135 u136 u137 u138 u139 u140 u141 u142 u143 u144 u145 u146 u147 u148 u149 u150 u151 u152 u153 u154 u155 u156 u157 u158 u159 u160 u161 u162 u163 u164 u165 u166 u167 u168 u169 u170 u171 u172 u173 u174 u175 u176 u177 u178 u179 u180 u181 u182 u183 u184 u185 u186 u187 u188 u189 u190 u191 u192 u193 u194 u195 u196 u197 u198 u199 u200 u201 u202 u203 u204 u205 u206 u207 u208 u209 u210 u211 u212 u213 u214 u215 u216 u217 u218 u219 u220 u221 u222 u223 u224 u225 u226 u227 u228 u229 u230 u231 u232 u233 u234 u235 u236 u237 u238 u239 u240 u241 u242 u243 u244 u245 u246 u247 u248 u249 u250 u251 u252 u253 u254 u255 u256 u257 u258 u259 u260 u261 u262 u263 u264 u265 u266 u267 u268 u269 u270 u271 u272 u273 u274 u275 u276 u277 u278 u279 u280 u281 u282 u283 u284 u285 u286 u287 u288 u289 u290 u291 u292 u293 u294 u295 u296 u297 u298 u299 u300 u301 u302 u303 u304 u305 u306 u307 u308 u309 u310 u311 u312 u313 u314 u315 u316 u317 u318 u319 u320 u321 u322 u323 u324 u325 u326 u327 u328 u329 u330 u331 u332 u333 u334 u335 u336 u337 u338 u339 u340 u341 u342 u343 u344 u345 u346 u347 u348 u349 : Value}
    (hlC : lC ≤ 1024) (rC : Reads B W aC lC fC) (hm : IsMem W m bud cv) (hcv : W.ownsRow n₀ 23 1 cv cs.length cs) (hev : W.ownsRow n₁ 23 1 ev cs.length cs) (hcs : cs.length ≤ 3) (hp : ∀ v ∈ cs, ∃ b, v = ptr b)
    (ho : Row W (B + 9) 34 oc) (o4 : oc[5]? = some (.slice a' lC c')) (o9 : oc[9]? = some (.slice none 0 0)) (o12 : oc[12]? = some (.bool false)) (sC : Src W (B + 10) a' lC fC) (hW : Below B w W) :
    Code.wp Ybad.prog code43 (bodyPost Ybad.prog Ybad.f3 (fun e w' => e = .returned (.bool true) ∧ Below B w w')) ⟨#[u0, u1, u2, u3, .slice aC lC cC, u5, u6, u7, u8, u9, u10, u11, u12, u13, u14, u15, u16, u17, .bool false, u19, u20, u21, u22, ptr (B + 9), u24, u25, u26, u27, u28, u29, u30, ptr m, ev, u33, u34, u35, u36, u37, u38, u39, u40, u41, u42, u43, u44, u45, u46, u47, u48, u49, u50, u51, u52, u53, u54, u55, u56, u57, u58, u59, u60, u61, u62, u63, u64, u65, u66, u67, u68, u69, u70, u71, u72, u73, u74, u75, u76, u77, u78, u79, u80, u81, u82, u83, u84, u85, u86, u87, u88, u89, u90, u91, u92, u93, u94, u95, u96, u97, u98, u99, u100, u101, u102, u103, u104, u105, u106, u107, u108, u109, u110, u111, u112, u113, u114, u115, u116, u117, u118, u119, u120, u121, u122, u123, u124, u125, u126, u127, u128, u129, u130, u131, u132, u133, u134, u135, u136, u137, u138, u139, u140, u141, u142, u143, u144, u145, u146, u147, u148, u149, u150, u151, u152, u153, u154, u155, u156, u157, u158, u159, u160, u161, u162, u163, u164, u165, u166, u167, u168, u169, u170, u171, u172, u173, u174, u175, u176, u177, u178, u179, u180, u181, u182, u183, u184, u185, u186, u187, u188, u189, u190, u191, u192, u193, u194, u195, u196, u197, u198, u199, u200, u201, u202, u203, u204, u205, u206, u207, u208, u209, u210, u211, u212, u213, u214, u215, u216, u217, u218, u219, u220, u221, u222, u223, u224, u225, u226, u227, u228, u229, u230, u231, u232, u233, u234, u235, u236, u237, u238, u239, u240, u241, u242, u243, u244, u245, u246, u247, u248, u249, u250, u251, u252, u253, u254, u255, u256, u257, u258, u259, u260, u261, u262, u263, u264, u265, u266, u267, u268, u269, u270, u271, u272, u273, u274, u275, u276, u277, u278, u279, u280, u281, u282, u283, u284, u285, u286, u287, u288, u289, u290, u291, u292, u293, u294, u295, u296, u297, u298, u299, u300, u301, u302, u303, u304, u305, u306, u307, u308, u309, u310, u311, u312, u313, u314, u315, u316, u317, u318, u319, u320, u321, u322, u323, u324, u325, u326, u327, u328, u329, u330, u331, u332, u333, u334, u335, u336, u337, u338, u339, u340, u341, u342, u343, u344, u345, u346, u347, u348, u349], []⟩ W := by
  obtain ⟨mc, hmr, _, m6, _⟩ := hm
  obtain ⟨ea, ecap, rfl, hea⟩ := own_shape hev
  obtain ⟨ca, ccap, rfl, hca⟩ := own_shape hcv
  have d6 := (hmr.cell 6).trans m6
  have c5 := (ho.cell 5).trans o4
  have c9 := (ho.cell 9).trans o9
  have c12 := (ho.cell 12).trans o12
  have hns := neqSlice
  have HA : Hid (W.ownsRow n₀ 23 1 (.slice ca cs.length ccap) cs.length cs ∧ W.ownsRow n₁ 23 1 (.slice ea cs.length ecap) cs.length cs ∧ (0 < cs.length → ∃ g, ca = some ⟨g, 0, none⟩) ∧ (0 < cs.length → ∃ g, ea = some ⟨g, 0, none⟩) ∧ (∀ v ∈ cs, ∃ b, v = ptr b)) := ⟨hcv, hev, hca, hea, hp⟩
  have HC : Hid (Reads B W aC lC fC ∧ Src W (B + 10) a' lC fC ∧ Below B w W) := ⟨rC, sC, hW⟩
  clear hcv hev hca hea rC sC hW hmr ho hp
  conv => arg 2; whnf
  go_wp2
  go_loopw [292] (fun v wr => ∃ k d : Nat, k ≤ cs.length ∧ v = .int .i64 k ∧ wr = W.drewN d) (fun v _ => cs.length - (intOf v).toNat)
  case atStart => exact ⟨0, 0, Nat.zero_le _, rfl, rfl⟩
  case round =>
    obtain ⟨k, d, hk, rfl, rfl⟩ := hrel
    by_cases hlt : k < cs.length
    · obtain ⟨h1, h2, h3, h4, h5⟩ := HA.out
      obtain ⟨g1, rfl⟩ := h3 (by omega)
      obtain ⟨g2, rfl⟩ := h4 (by omega)
      obtain ⟨b, hb⟩ := h5 cs[k] (List.getElem_mem hlt)
      have hk1 : cs[k]? = some (ptr b) := by rw [List.getElem?_eq_getElem hlt, hb]
      have e1 := h1.cells rfl k _ hk1
      have e2 := h2.cells rfl k _ hk1
      rw [add_at] at e1 e2
      have hne := neqPtr b
      have g0 : (k : Int) < (cs.length : Int) := by omega
      clear h1 h2 h3 h4 h5 hb hk1
      go_upto_region 48 with fail
      go_quiet (fail)
      go_wp2
      go_roundw
      case rel => exact ⟨k + 1, _, by omega, by simp, rfl⟩
      case measure => simp [intOf]; omega
    · obtain rfl : k = cs.length := by omega
      clear HA hlt hk
      go_wp2
      go_loopw [333] (fun v wr => ∃ k d : Nat, k ≤ lC ∧ v = .int .i64 k ∧ wr = W.drewN d) (fun v _ => lC - (intOf v).toNat)
      case atStart => exact ⟨0, d, Nat.zero_le _, rfl, rfl⟩
      case round =>
        obtain ⟨k, d2, hk, rfl, rfl⟩ := hrel
        by_cases hlt : k < lC
        · obtain ⟨h1, h2, h3⟩ := HC.out
          obtain ⟨b1, off1, rfl, _, e1⟩ := h1 (by omega)
          obtain ⟨b2, off2, rfl, _, e2⟩ := h2.1 (by omega)
          have e1' := e1 k hlt
          have e2' := e2 k hlt
          have g0 : (k : Int) < (lC : Int) := by omega
          clear h1 h2 h3 e1 e2
          go_upto_region 56 with fail
          go_quiet (fail)
          go_wp2
          go_roundw
          case rel => exact ⟨k + 1, _, by omega, by simp, rfl⟩
          case measure => simp [intOf]; omega
        · obtain rfl : k = lC := by omega
          go_wp2
          go_ret
          obtain ⟨_, _, h3⟩ := HC.out
          exact ⟨rfl, h3.os, h3.tape, h3.output, h3.size, h3.block⟩
end Follow
end Go.Proofs.YbulkcrmgDoor
