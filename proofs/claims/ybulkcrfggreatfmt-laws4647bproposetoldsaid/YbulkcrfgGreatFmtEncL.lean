/-
  LawS4647BPropose: the lists are encoded.
-/
import Derived.Test.YbulkcrfgGreatFmtNewX
import Derived.Lib.AppendStr
import Derived.Laws.IdiomStrings
namespace Go.Proofs.YbulkcrfgGreatFmt
open Go.RowKit
namespace Propose
open Kit

/-- Rows of four cells, one behind another. -/
def flat4 (c : Nat → List Value) : Nat → List Value
  | 0 => []
  | n + 1 => flat4 c n ++ c n
theorem flat4_len (c : Nat → List Value) (h : ∀ k, (c k).length = 4) : ∀ n, (flat4 c n).length = n * 4
  | 0 => rfl
  | n + 1 => by
    show (flat4 c n ++ c n).length = _
    rw [List.length_append, flat4_len c h n, h]
    omega
theorem flat4_get (c : Nat → List Value) (h : ∀ k, (c k).length = 4) : ∀ n k j, k < n → j < 4 → (flat4 c n)[k * 4 + j]? = (c k)[j]?
  | 0, k, j, hk, _ => absurd hk (Nat.not_lt_zero _)
  | n + 1, k, j, hk, hj => by
    show (flat4 c n ++ c n)[k * 4 + j]? = _
    have hl := flat4_len c h n
    by_cases e : k = n
    · subst e
      rw [List.getElem?_append_right (by omega), hl]
      congr 1
      omega
    · rw [List.getElem?_append_left (by omega)]
      exact flat4_get c h n k j (by omega) hj
theorem encs_snoc (a : List Nat) (x : Nat) : encs (a ++ [x]) = encs a ++ encL x := by
  induction a with
  | nil => simp [encs]
  | cons y a ih => simp only [List.cons_append, encs, ih, List.append_assoc]
theorem take_snoc {xs : List Nat} {j x : Nat} (h : xs[j]? = some x) : xs.take (j + 1) = xs.take j ++ [x] := by
  rw [List.take_add_one, h]
  rfl
theorem Ybaz.info5 : (Ybaz.prog.info? 5).map (fun i => (i.zero, i.size, i.bytes)) = some (some (.int .u8 0), 1, 1) := by kernel_rfl
theorem Ybaz.info38 : (Ybaz.prog.info? 38).map (fun i => (i.zero, i.size, i.bytes)) = some (some (.agg #[.int .i64 0, .int .i64 0, .string ⟨#[]⟩, .bool false]), 4, 40) := by kernel_rfl
theorem conv_nil (W : World) : (convert 23 9 (.slice none 0 0)).run Ybaz.prog W = .ok (.string ⟨#[]⟩) W := by kernel_rfl
/-- string(enc). -/
theorem conv_ok {W : World} {B : Nat} {v : Value} {l : List UInt8} (h : W.ownsRow B 5 1 v l.length (Lib.byteCells l)) : (convert 23 9 v).run Ybaz.prog W = .ok (str l) W := by
  rcases h.2 with ⟨rfl, h0⟩ | ⟨g, cap, cur, rfl, _⟩
  · have hl : l = [] := by
      have := h.1
      exact List.eq_nil_of_length_eq_zero h0
    subst hl
    exact conv_nil W
  · refine run_convert_bytes_back W 23 9 5 ⟨g, 0, none⟩ cap l Ybaz.underlying23 Ybaz.underlying5 Ybaz.underlying9 (fun j hj => ?_)
    exact h.cells (g := g) rfl j _ (by simp [Lib.byteCells, hj])
/-- The four cells of list k. -/
def alc (a : Nat → AL) (k : Nat) : List Value := [num (a k).f, num (a k).l, str (encs (a k).xs), .bool (a k).al]
theorem larr_of {W : World} {B g n cap : Nat} {a : Nat → AL} (h : W.ownsRow B 38 4 (.slice (some ⟨g, 0, none⟩) n cap) n (flat4 (alc a) n)) : LArr W g n a := by
  refine ⟨(h.lt g rfl).2, fun i hi => ?_⟩
  have hc : ∀ j u, (flat4 (alc a) n)[j]? = some u → W.cell? ⟨g, j, none⟩ = some u := fun j u hu => by
    have := h.cells (g := g) rfl j u hu
    rwa [add0] at this
  have hf := fun j hj => flat4_get (alc a) (fun _ => rfl) n i j hi hj
  exact ⟨hc _ _ ((hf 0 (by omega)).trans rfl), hc _ _ ((hf 1 (by omega)).trans rfl), hc _ _ ((hf 2 (by omega)).trans rfl), hc _ _ ((hf 3 (by omega)).trans rfl)⟩
theorem own_keep {W W' : World} {B : Nat} {e : TypeId} {s n : Nat} {v : Value} {xs : List Value} (h : W.ownsRow B e s v n xs) (hb : Below W.heap.size W W') : W'.ownsRow B e s v n xs :=
  h.kept (row := none) ⟨hb.os, hb.tape, hb.output, hb.size, fun k hk _ => hb.block k hk⟩ (by cases v.ownBlock <;> simp)

set_option linter.unusedSimpArgs false in
set_option maxRecDepth 1000000 in
set_option maxHeartbeats 16000000 in
theorem lawEnc (Fi : Go.Stop.Interp) (w0 V : World) (N T me k v0 g n cap : Nat) (E : Nat → El) (X : Nat → List Nat) (hF : Fi.answers V.tape) (hN : 1 ≤ N ∧ N ≤ 7) (hT : T < N) (hme : 1 ≤ me ∧ me ≤ N) (hk : 1 ≤ k ∧ k ≤ 20) (hn : n ≤ 300) (hv : 1 ≤ v0 ∧ v0 ≤ 4)
    (hE : Lst V g n E X) (hB : Below w0.heap.size w0 V)
    (hr : propR (als E X) me n (N - T) (fun i => decide (v0 = i)) = wantR (als E X) me n N (N - T) (cnd (als E X) me (fun i => decide (v0 = i)) n) (hdc (frm (als E X) me n) N)) {u0 u1 u2 u3 u4 u5 u6 u7 u8 u9 u10 u11 u12 u13 u20 u21 u22 u23 u24 u25 u26 u27 u28 u29 u30 u31 u32 u33 u34 u35 u36 u37 u38 u39 u40 u41 u42 u43 u44 u45 u46 u47 u48 u49 u50 u51 u52 u53 u54 u55 u56 u57 u58 u59 u60 u61 u62 u63 u64 u65 u66 u67 u68 u69 u70 u71 u72 u73 u74 u75 u76 u77 u78 u79 u80 u81 u82 u83 u84 u85 u86 u87 u88 u89 u90 u91 u92 u93 u94 u95 u96 u97 u98 u99 u100 u101 u102 u103 u104 u105 u106 u107 u108 u109 u110 u111 u112 u113 u114 u115 u116 u117 u118 u119 u120 u121 u122 u123 u124 u125 u126 u127 u128 u129 u130 u131 u132 u133 u134 u135 u136 u137 u138 u139 u140 u141 u142 u143 u144 u145 u146 u147 u148 u149 u150 u151 u152 u153 u154 u155 u156 u157 u158 u159 u160 u161 u162 u163 u164 u165 u166 u167 u168 u169 u170 u171 u172 u173 u174 u175 u176 u177 u178 u179 u180 u181 u182 u183 u184 u185 u186 u187 u188 u189 u190 u191 u192 u193 u194 u195 u196 u197 u198 u199 u200 u201 u202 u203 u204 u205 u206 u207 u208 u209 u210 u211 u212 u213 u214 u215 u216 u217 u218 u219 u220 u221 u222 u223 u224 u225 u226 u227 u228 u229 u230 u231 u232 u233 u234 u235 u236 u237 u238 u239 u240 u241 u242 u243 u244 u245 u246 u247 u248 u249 u250 u251 u252 u253 u254 u255 u256 u257 u258 u259 u260 u261 u262 u263 u264 u265 u266 u267 u268 u269 u270 u271 u272 u273 u274 u275 u276 u277 u278 u279 u280 u281 u282 u283 u284 u285 u286 u287 u288 u289 u290 u291 u292 u293 u294 u295 u296 u297 u298 u299 u300 u301 u302 u303 u304 u305 u306 u307 u308 u309 u310 u311 u312 u313 u314 u315 u316 u317 u318 u319 u320 u321 u322 u323 u324 u325 u326 u327 u328 u329 u330 u331 u332 u333 u334 u335 u336 u337 u338 u339 u340 u341 u342 u343 u344 u345 u346 u347 u348 u349 u350 u351 u352 u353 u354 u355 u356 u357 u358 u359 u360 u361 u362 u363 : Value} :
    Code.wp Ybaz.prog law30 (bodyPost Ybaz.prog Ybaz.f3 (lawPost w0)) ⟨#[u0, u1, u2, u3, u4, u5, u6, u7, u8, u9, u10, u11, u12, u13, num N, num T, num me, num k, num v0, .slice (some ⟨g, 0, none⟩) n cap, u20, u21, u22, u23, u24, u25, u26, u27, u28, u29, u30, u31, u32, u33, u34, u35, u36, u37, u38, u39, u40, u41, u42, u43, u44, u45, u46, u47, u48, u49, u50, u51, u52, u53, u54, u55, u56, u57, u58, u59, u60, u61, u62, u63, u64, u65, u66, u67, u68, u69, u70, u71, u72, u73, u74, u75, u76, u77, u78, u79, u80, u81, u82, u83, u84, u85, u86, u87, u88, u89, u90, u91, u92, u93, u94, u95, u96, u97, u98, u99, u100, u101, u102, u103, u104, u105, u106, u107, u108, u109, u110, u111, u112, u113, u114, u115, u116, u117, u118, u119, u120, u121, u122, u123, u124, u125, u126, u127, u128, u129, u130, u131, u132, u133, u134, u135, u136, u137, u138, u139, u140, u141, u142, u143, u144, u145, u146, u147, u148, u149, u150, u151, u152, u153, u154, u155, u156, u157, u158, u159, u160, u161, u162, u163, u164, u165, u166, u167, u168, u169, u170, u171, u172, u173, u174, u175, u176, u177, u178, u179, u180, u181, u182, u183, u184, u185, u186, u187, u188, u189, u190, u191, u192, u193, u194, u195, u196, u197, u198, u199, u200, u201, u202, u203, u204, u205, u206, u207, u208, u209, u210, u211, u212, u213, u214, u215, u216, u217, u218, u219, u220, u221, u222, u223, u224, u225, u226, u227, u228, u229, u230, u231, u232, u233, u234, u235, u236, u237, u238, u239, u240, u241, u242, u243, u244, u245, u246, u247, u248, u249, u250, u251, u252, u253, u254, u255, u256, u257, u258, u259, u260, u261, u262, u263, u264, u265, u266, u267, u268, u269, u270, u271, u272, u273, u274, u275, u276, u277, u278, u279, u280, u281, u282, u283, u284, u285, u286, u287, u288, u289, u290, u291, u292, u293, u294, u295, u296, u297, u298, u299, u300, u301, u302, u303, u304, u305, u306, u307, u308, u309, u310, u311, u312, u313, u314, u315, u316, u317, u318, u319, u320, u321, u322, u323, u324, u325, u326, u327, u328, u329, u330, u331, u332, u333, u334, u335, u336, u337, u338, u339, u340, u341, u342, u343, u344, u345, u346, u347, u348, u349, u350, u351, u352, u353, u354, u355, u356, u357, u358, u359, u360, u361, u362, u363], []⟩ V := by
  have HG : Hid (Fi.answers V.tape ∧ Lst V g n E X ∧ Below w0.heap.size w0 V) := ⟨hF, hE, hB⟩
  have HR : Hid (propR (als E X) me n (N - T) (fun i => decide (v0 = i)) = wantR (als E X) me n N (N - T) (cnd (als E X) me (fun i => decide (v0 = i)) n) (hdc (frm (als E X) me n) N)) := hr
  obtain ⟨i5, hi5, hz5, hs5, hb5⟩ := info_parts Ybaz.info5
  obtain ⟨i38, hi38, hz38, hs38, hb38⟩ := info_parts Ybaz.info38
  clear hF hE hB hr
  conv => arg 2; whnf
  refine wp_seq_k (fun K0 hK0 => ?_)
  have H0 : Hid _ := hK0
  clear hK0
  go_wp2_with (at_make; refine wpList_make_own _ rfl _ _ 33 rfl V.heap.size 38 i38 _ 4 Ybaz.underlying33 hi38 hz38 hs38 _ _ _ n rfl rfl rfl (by rw [hb38]; omega) (by unfold maxLen; omega) (Nat.le_refl _) ?_; intro w1 hown1 hgr1)
  have HV1 : Hid (w1.ownsRow V.heap.size 38 4 (.slice (some ⟨V.heap.size, 0, none⟩) 0 n) 0 [] ∧ Below V.heap.size V w1) := ⟨hown1, (Below.refl _ _).grown hgr1 (Nat.le_refl _) (fun k h => by cases h)⟩
  clear hown1 hgr1
  refine H0.out _ _ (wp_seq_k (fun K1 hK1 => ?_))
  have H1 : Hid _ := hK1
  clear hK1 H0
  go_upto_region 32 with fail
  go_loopw [26, 153] (fun v26 v153 wr => ∃ i : Nat, i ≤ n ∧ v153 = num i ∧ (∃ gl capl, v26 = .slice (some ⟨gl, 0, none⟩) i capl) ∧ wr.ownsRow V.heap.size 38 4 v26 i (flat4 (alc (als E X)) i) ∧ Below V.heap.size V wr) (fun _ v _ => n - (intOf v).toNat)
  case atStart => exact ⟨0, Nat.zero_le _, rfl, ⟨_, _, rfl⟩, HV1.out.1, HV1.out.2⟩
  case round =>
    obtain ⟨i, hi, rfl, hform, hO, hBr⟩ := hrel
    clear HV1
    by_cases hlt : i < n
    · have g1 : (i : Int) < (n : Int) := by omega
      have hLr := HG.out.2.1.below hBr
      have c0 := hLr.arr.c0 hlt
      have c1 := hLr.arr.c1 hlt
      have c2 := hLr.arr.c2 hlt
      have c3 := hLr.arr.c3 hlt
      obtain ⟨o1, o2, o3, o4, o5, o6⟩ := HG.out.2.1.ok i hlt
      rw [o5] at c2
      have HP : Hid (wr.ownsRow V.heap.size 38 4 u26 i (flat4 (alc (als E X)) i) ∧ Below V.heap.size V wr) := ⟨hO, hBr⟩
      have HV : Hid (Vl V (E i).va (X i)) := o6
      have HO1 : Hid (∀ y ∈ X i, y < 6) := o1
      have hac : alc (als E X) i = [num (E i).f, num (E i).l, str (encs (X i)), .bool (E i).al] := rfl
      have Hac : Hid _ := hac
      have Hform : Hid _ := hform
      clear hO hBr hLr o6 o5 o1 hac hform
      generalize X i = xs at c2 HV o2 HO1 Hac
      go_upto_region 34 with fail
      have hrow := Row.new wr 29 [num (E i).f, num (E i).l, .slice (E i).va xs.length (E i).vc, .bool (E i).al] _ rfl
      have y0 := hrow.cell 0
      have y1 := hrow.cell 1
      have y2 := hrow.cell 2
      have y3 := hrow.cell 3
      simp only [List.getElem?_cons_zero, List.getElem?_cons_succ] at y0 y1 y2 y3
      generalize hbv : wr.heap.size = bv at hrow y0 y1 y2 y3 ⊢
      generalize hVV : World.alloc wr _ = V4 at hrow y0 y1 y2 y3 ⊢
      have H4 : Hid (V4.ownsRow V.heap.size 38 4 u26 i (flat4 (alc (als E X)) i) ∧ Below V.heap.size V V4 ∧ Row V4 bv 29 [num (E i).f, num (E i).l, .slice (E i).va xs.length (E i).vc, .bool (E i).al]) := by
        obtain ⟨a1, a2⟩ := HP.out
        have hb4 : Below wr.heap.size wr V4 := by
          rw [← hVV]
          exact (Below.refl _ _).alloc (Nat.le_refl _) _
        exact ⟨own_keep a1 hb4, a2.trans (hb4.mono a2.size), hrow⟩
      clear hVV hbv c0 c1 c2 c3 HP hrow y0 y1 y3
      go_upto_region 36 with fail
      go_loopw [29, 160] (fun v29 v160 wq => ∃ j : Nat, j ≤ xs.length ∧ v160 = num j ∧ wq.ownsRow V4.heap.size 5 1 v29 (encs (xs.take j)).length (Lib.byteCells (encs (xs.take j))) ∧ Below V4.heap.size V4 wq) (fun _ v _ => xs.length - (intOf v).toNat)
      case atStart => exact ⟨0, Nat.zero_le _, rfl, World.ownsRow_nil _ _ _ _, Below.refl _ _⟩
      case round =>
        clear y2
        obtain ⟨j, hj, rfl, q1, q2⟩ := hrel
        have hql : (encs (xs.take j)).length ≤ 259 * 300 := by
          have h1 := encs_len (xs.take j) (fun x hx => HO1.out x (List.mem_of_mem_take hx))
          have h2 : (xs.take j).length ≤ xs.length := by rw [List.length_take]; omega
          have h3 : 259 * (xs.take j).length ≤ 259 * 300 := Nat.mul_le_mul_left _ (by omega)
          omega
        by_cases hjl : j < xs.length
        · have g2 : (j : Int) < (xs.length : Int) := by omega
          obtain ⟨x, hx⟩ : ∃ x, xs[j]? = some x := ⟨xs[j], by simp⟩
          have hVq := H4.out.2.1.trans (q2.mono H4.out.2.1.size)
          obtain ⟨b, off, hva, hcx⟩ : ∃ b off, (E i).va = some ⟨b, off, none⟩ ∧ wr.cell? ⟨b, off + j, none⟩ = some (num x) := by
            rcases HV.out.below hVq with h | ⟨b, off, e, _, hc⟩
            · rw [h] at hjl; simp at hjl
            · exact ⟨b, off, e, hc j x hx⟩
          have hx6 : x < 6 := HO1.out x (List.mem_of_getElem? hx)
          have hpx := poolL_len x
          have hue := uv_len x hx6
          have HQ : Hid (wr.ownsRow V4.heap.size 5 1 u29 (encs (xs.take j)).length (Lib.byteCells (encs (xs.take j))) ∧ Below V4.heap.size V4 wr) := ⟨q1, q2⟩
          have Hx : Hid _ := hx
          clear q1 q2 hx hVq
          rw [hva]
          go_upto_region 39 with (go_at_call 8; refine (pool_ok x hx6 _).mono ?_; rintro e w2 ⟨rfl, hb2⟩)
          have HO2 : Hid (w2.ownsRow V4.heap.size 5 1 u29 (encs (xs.take j)).length (Lib.byteCells (encs (xs.take j))) ∧ Below V4.heap.size V4 w2) := ⟨own_keep HQ.out.1 hb2, HQ.out.2.trans (hb2.mono HQ.out.2.size)⟩
          have HC9 : Hid (Calls Ybaz.prog 9 #[u29, .int .u64 ((poolL x).length : Nat)] w2 fun e w' => ∃ v', e = .returned v' ∧ w'.ownsRow V4.heap.size 5 1 v' ((encs (xs.take j)).length + (Lib.uvarint (poolL x).length).length) (Lib.byteCells (encs (xs.take j)) ++ Lib.byteCells (Lib.uvarint (poolL x).length)) ∧ Below V4.heap.size w2 w') :=
            Ybaz.binary_AppendUvarint V4.heap.size (encs (xs.take j)).length (poolL x).length (by omega) u29 _ w2 HO2.out.1 HO2.out.2.size (by omega)
          have hwu : IntKind.u64.wrap (((poolL x).length : Nat) : Int) = ((poolL x).length : Int) := by
            rw [IntKind.wrap_u64]
            omega
          clear hb2 HQ
          unfold pool
          go_upto_region 40 with (go_at_call 9; refine HC9.out.mono ?_; rintro e w3 ⟨v3, rfl, hown3, hb3⟩)
          have HO3 : Hid (w3.ownsRow V4.heap.size 5 1 v3 ((encs (xs.take j)).length + (Lib.uvarint (poolL x).length).length) (Lib.byteCells (encs (xs.take j)) ++ Lib.byteCells (Lib.uvarint (poolL x).length)) ∧ Below V4.heap.size V4 w3) := ⟨hown3, HO2.out.2.trans hb3⟩
          clear hown3 hb3 HO2 HC9
          go_wp2_with (at_builtin; refine Lib.wpList_append_own_string _ rfl _ _ 23 9 rfl V4.heap.size 5 i5 Ybaz.underlying23 Ybaz.underlying9 hi5 hz5 hs5 hb5 v3 _ _ rfl HO3.out.1 ⟨(poolL x).toArray⟩ rfl (by unfold maxLen; simp [ByteArray.size]; omega) (by simp [ByteArray.size]; omega) HO3.out.2.size ?_; intro v4 w4 hown4 hgr4 hnil4)
          go_roundw
          case rel =>
            refine ⟨j + 1, by omega, by simp, ?_, ?_⟩
            · have e1 : encs (xs.take (j + 1)) = encs (xs.take j) ++ (Lib.uvarint (poolL x).length ++ poolL x) := by rw [take_snoc Hx.out, encs_snoc]; rfl
              have e2 : (encs (xs.take (j + 1))).length = (encs (xs.take j)).length + (Lib.uvarint (poolL x).length).length + (⟨(poolL x).toArray⟩ : ByteArray).size := by
                rw [e1, List.length_append, List.length_append, Nat.add_assoc]
                rfl
              have e3 : Lib.byteCells (encs (xs.take (j + 1))) = Lib.byteCells (encs (xs.take j)) ++ Lib.byteCells (Lib.uvarint (poolL x).length) ++ Lib.strCells ⟨(poolL x).toArray⟩ := by
                rw [e1]
                simp [Lib.byteCells, Lib.strCells]
              rw [e2, e3]
              exact hown4
            · exact HO3.out.2.grown hgr4 HO3.out.2.size (fun k h => (HO3.out.1.lt k h).1)
          case measure => simp [intOf]; omega
        · obtain rfl : j = xs.length := by omega
          rw [List.take_length] at q1 hql
          have hVq := H4.out.2.1.trans (q2.mono H4.out.2.1.size)
          have hrow := H4.out.2.2.below q2 H4.out.2.2.lt
          have y0 := hrow.cell 0
          have y1 := hrow.cell 1
          have y3 := hrow.cell 3
          simp only [List.getElem?_cons_zero, List.getElem?_cons_succ] at y0 y1 y3
          have hcv := conv_ok q1
          have hO4 := own_keep H4.out.1 q2
          obtain ⟨gl, capl, rfl⟩ := Hform.out
          have HO4 : Hid (wr.ownsRow V.heap.size 38 4 (.slice (some ⟨gl, 0, none⟩) i capl) i (flat4 (alc (als E X)) i) ∧ Below V.heap.size V wr) := ⟨hO4, hVq⟩
          clear q1 q2 hVq hrow hO4
          have hB5 := (Below.refl wr.heap.size wr).alloc (Nat.le_refl _) (.cells #[num (E i).f, num (E i).l, str (encs xs), .bool (E i).al] 38)
          have HC5 : Hid ((wr.alloc (.cells #[num (E i).f, num (E i).l, str (encs xs), .bool (E i).al] 38)).ownsRow V.heap.size 38 4 (.slice (some ⟨gl, 0, none⟩) i capl) i (flat4 (alc (als E X)) i) ∧ (∀ j u, [num (E i).f, num (E i).l, str (encs xs), .bool (E i).al][j]? = some u → (wr.alloc (.cells #[num (E i).f, num (E i).l, str (encs xs), .bool (E i).al] 38)).cell? ((⟨wr.heap.size, 0, none⟩ : Addr).add j) = some u) ∧ Below V.heap.size V (wr.alloc (.cells #[num (E i).f, num (E i).l, str (encs xs), .bool (E i).al] 38))) := by
            refine ⟨own_keep HO4.out.1 hB5, fun j u hu => ?_, HO4.out.2.trans (hB5.mono HO4.out.2.size)⟩
            rw [add0, (Row.new wr 38 [num (E i).f, num (E i).l, str (encs xs), .bool (E i).al] _ rfl).cell]
            exact hu
          clear hB5
          go_wp2_with (at_builtin; refine wpList_append_own_at _ rfl _ _ 33 rfl V.heap.size 38 i38 _ 4 40 Ybaz.underlying33 hi38 hz38 hs38 hb38 rfl (by decide) (.slice (some ⟨gl, 0, none⟩) i capl) i (flat4 (alc (als E X)) i) rfl HC5.out.1 ⟨wr.heap.size, 0, none⟩ 1 1 [num (E i).f, num (E i).l, str (encs xs), .bool (E i).al] rfl rfl HC5.out.2.1 (by simp [Value.oneCell']) (by unfold maxLen; omega) (by omega) HC5.out.2.2.size ?_; intro v' w5 hown' hgrow hnil hlies)
          go_roundw
          case rel =>
            refine ⟨i + 1, by omega, by simp, ?_, ?_, ?_⟩
            · rcases hown'.2 with ⟨rfl, h0⟩ | ⟨g', cap', cur, rfl, _⟩
              · exact absurd (hnil.1 rfl).1 (by simp)
              · exact ⟨g', cap', rfl⟩
            · have e : flat4 (alc (als E X)) (i + 1) = flat4 (alc (als E X)) i ++ [num (E i).f, num (E i).l, str (encs xs), .bool (E i).al] := by
                rw [← Hac.out]
                rfl
              rw [e]
              exact hown'
            · exact HC5.out.2.2.grown hgrow HC5.out.2.2.size (fun k h => (HC5.out.1.lt k h).1)
          case measure => simp [intOf]; omega
    · obtain rfl : i = n := by omega
      obtain ⟨gl, capl, rfl⟩ := hform
      go_wp2_with fail
      exact H1.out _ _ (lawNew Fi w0 wr N T me k v0 g i cap gl capl E X (by rw [hBr.tape]; exact HG.out.1) hN hT hme hk hn hv (HG.out.2.1.below hBr) (larr_of hO) (HG.out.2.2.trans (hBr.mono HG.out.2.2.size)) HR.out)
end Propose
end Go.Proofs.YbulkcrfgGreatFmt
