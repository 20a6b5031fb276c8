/-
  LawS4647BPropose: the lists are made.
-/
import Derived.Test.YbulkcrfgGreatFmtSrt
import Derived.Test.YbulkcrfgGreatFmtOpen
namespace Go.Proofs.YbulkcrfgGreatFmt
open Go.RowKit
namespace Propose
open Kit Arg

/-- The four cells of list k. -/
def elc (e : Nat → El) (k : Nat) : List Value := [num (e k).f, num (e k).l, (e k).v, .bool (e k).al]
/-- The slice va is a row of ints that holds xs. -/
def Vr (W : World) (va : Option Addr) (xs : List Nat) : Prop :=
  (xs = [] ∧ va = none) ∨ ∃ (b : Nat) (cs : Array Value), va = some ⟨b, 0, none⟩ ∧ W.heap[b]? = some (.cells cs 3 (0, 0)) ∧ ∀ (j x : Nat), xs[j]? = some x → cs[j]? = some (num x)
theorem Vr.vl {W : World} {va : Option Addr} {xs : List Nat} (h : Vr W va xs) : Vl W va xs := by
  rcases h with ⟨h, _⟩ | ⟨b, cs, e, hb, hc⟩
  · exact .inl h
  · refine .inr ⟨b, 0, e, (Array.getElem?_eq_some_iff.1 hb).1, fun j x hx => ?_⟩
    rw [Nat.zero_add, cell_of_row W b j _ _ _ hb]
    exact hc j x hx
theorem Vr.ne {W : World} {va : Option Addr} {xs : List Nat} {g : Nat} {cur : Array Value} (h : Vr W va xs) (hg : W.heap[g]? = some (.cells cur 29 (0, 0))) : ∀ b off, va = some ⟨b, off, none⟩ → b ≠ g := by
  rintro b off rfl rfl
  rcases h with ⟨_, h⟩ | ⟨b', cs, e, hb, _⟩
  · cases h
  · cases e
    rw [hg] at hb
    cases hb
theorem Vr.below {W W' : World} {va : Option Addr} {xs : List Nat} (h : Vr W va xs) (hb : Below W.heap.size W W') : Vr W' va xs := by
  rcases h with h | ⟨b, cs, e, h1, h2⟩
  · exact .inl h
  · exact .inr ⟨b, cs, e, (hb.block b (Array.getElem?_eq_some_iff.1 h1).1).trans h1, h2⟩
theorem Vr.grown {W W' : World} {va : Option Addr} {xs : List Nat} {g : Nat} {cur : Array Value} (h : Vr W va xs) (hw : W.grownBy W' (some g)) (hg : W.heap[g]? = some (.cells cur 29 (0, 0))) : Vr W' va xs := by
  have hn := h.ne hg
  rcases h with h | ⟨b, cs, e, h1, h2⟩
  · exact .inl h
  · refine .inr ⟨b, cs, e, (hw.block b (Array.getElem?_eq_some_iff.1 h1).1 ?_).trans h1, h2⟩
    intro e2
    cases e2
    exact hn _ _ e rfl
/-- The first j of the bytes x, each less than six now. -/
def six (x : Nat → Nat) (j : Nat) : List Nat := (List.range j).map fun t => x t % 6
theorem six_succ (x : Nat → Nat) (j : Nat) : six x (j + 1) = six x j ++ [x j % 6] := by simp [six, List.range_succ]
theorem six_len (x : Nat → Nat) (j : Nat) : (six x j).length = j := by simp [six]
theorem six_lt (x : Nat → Nat) (j : Nat) : ∀ y ∈ six x j, y < 6 := by
  intro y hy
  simp [six] at hy
  obtain ⟨t, _, rfl⟩ := hy
  exact Nat.mod_lt _ (by omega)
theorem Vr.of_own {W : World} {B : Nat} {v : Value} {xs : List Nat} {n : Nat} (hl : xs.length = n) (h : W.ownsRow B 3 1 v n (xs.map num)) : ∃ va vc, v = .slice va n vc ∧ Vr W va xs := by
  rcases h.2 with ⟨rfl, h0⟩ | ⟨g, cap, cur, rfl, _, hg, _, _, _, ht⟩
  · subst h0
    exact ⟨none, 0, rfl, .inl ⟨List.eq_nil_of_length_eq_zero hl, rfl⟩⟩
  · refine ⟨_, _, rfl, .inr ⟨g, cur, rfl, hg, fun j x hx => ?_⟩⟩
    have hj : j < xs.length := (List.getElem?_eq_some_iff.1 hx).1
    have h1 : (cur.toList.take (n * 1))[j]? = some (num x) := by rw [ht, List.getElem?_map, hx]; rfl
    rw [List.getElem?_take_of_lt (by omega)] at h1
    simpa using h1
/-- The leader of a list. -/
def led (N me l : Nat) : Nat := if l % 2 = 1 then 1 + l / 2 % N else me
def elOf (N me : Nat) (r : Rl) (va : Option Addr) (vc : Nat) : El := ⟨1 + r.f % N, led N me r.l, va, r.vn, vc, r.al⟩
/-- The first i lists are made. -/
def Mk (V W : World) (N me i : Nat) (o : Nat → Rl) (v : Value) : Prop :=
  ∃ e : Nat → El, W.ownsRow V.heap.size 29 4 v i (flat4 (elc e) i) ∧ Below V.heap.size V W ∧ ∀ k, k < i → ∃ va vc, e k = elOf N me (o k) va vc ∧ Vr W va (six (o k).x (o k).vn)
theorem flat4_congr {c d : Nat → List Value} : ∀ n, (∀ k, k < n → c k = d k) → flat4 c n = flat4 d n
  | 0, _ => rfl
  | n + 1, h => by
    show flat4 c n ++ c n = flat4 d n ++ d n
    rw [flat4_congr n (fun k hk => h k (by omega)), h n (by omega)]
theorem led_ok {N me l : Nat} (hN : 1 ≤ N ∧ N ≤ 7) (hme : 1 ≤ me ∧ me ≤ N) : 1 ≤ led N me l ∧ led N me l ≤ 7 := by
  unfold led
  split
  · have := Nat.mod_lt (l / 2) (show 0 < N by omega)
    omega
  · omega
/-- All lists are made. -/
theorem Mk.pre {V W : World} {N me n g cap : Nat} {o : Nat → Rl} (hN : 1 ≤ N ∧ N ≤ 7) (hme : 1 ≤ me ∧ me ≤ N) (hvn : ∀ i, i < n → (o i).vn ≤ 300) (h : Mk V W N me n o (.slice (some ⟨g, 0, none⟩) n cap)) :
    ∃ e, Pre W N g n e (fun k => six (o k).x (o k).vn) ∧ V.heap.size ≤ g := by
  obtain ⟨e, hO, _, hk⟩ := h
  rcases hO.2 with ⟨h, _⟩ | ⟨g', cap', cur, hv, hBg, hg, hc1, hc2, hc3, ht⟩
  · cases h
  · cases hv
    refine ⟨e, ⟨⟨⟨cur.toList, by unfold Row; simpa using hg, fun i hi => ?_⟩, fun i hi => ?_⟩, fun i hi b off hb => ?_, fun i hi => ?_⟩, hBg⟩
    · have hh : ∀ j, j < 4 → cur.toList[i * 4 + j]? = (elc e i)[j]? := fun j hj => by
        rw [← flat4_get (elc e) (fun _ => rfl) n i j hi hj, ← ht, List.getElem?_take_of_lt (by omega)]
      exact ⟨(hh 0 (by omega)).trans rfl, (hh 1 (by omega)).trans rfl, (hh 2 (by omega)).trans rfl, (hh 3 (by omega)).trans rfl⟩
    · obtain ⟨va, vc, e1, e2⟩ := hk i hi
      rw [e1]
      have hm := Nat.mod_lt (o i).f (show 0 < N by omega)
      refine ⟨six_lt _ _, by rw [six_len]; exact hvn i hi, ?_, led_ok hN hme, (six_len _ _).symm, e2.vl⟩
      show 1 ≤ 1 + (o i).f % N ∧ 1 + (o i).f % N ≤ 7
      omega
    · obtain ⟨va, vc, e1, e2⟩ := hk i hi
      rw [e1] at hb
      exact e2.ne hg b off hb
    · obtain ⟨va, vc, e1, e2⟩ := hk i hi
      rw [e1]
      have hm := Nat.mod_lt (o i).f (show 0 < N by omega)
      show 1 ≤ 1 + (o i).f % N ∧ 1 + (o i).f % N ≤ N
      omega
/-- One list more: its cells are laid behind the others. -/
theorem Mk.more {V W W' : World} {N me i : Nat} {o : Nat → Rl} {v v' : Value} {e : Nat → El} {va : Option Addr} {vc : Nat} (hO : W.ownsRow V.heap.size 29 4 v i (flat4 (elc e) i)) (hB : Below V.heap.size V W) (hk : ∀ k, k < i → ∃ va vc, e k = elOf N me (o k) va vc ∧ Vr W va (six (o k).x (o k).vn)) (hi : Vr W va (six (o i).x (o i).vn))
    (hO' : W'.ownsRow V.heap.size 29 4 v' (i + 1) (flat4 (elc e) i ++ [num (1 + (o i).f % N), num (led N me (o i).l), .slice va (o i).vn vc, .bool (o i).al])) (hw : W.grownBy W' v.ownBlock) : Mk V W' N me (i + 1) o v' := by
  have hV : ∀ va xs, Vr W va xs → Vr W' va xs := fun va xs h => by
    rcases hO.2 with ⟨rfl, _⟩ | ⟨g, cap, cur, rfl, _, hg, _⟩
    · rcases h with h | ⟨b, cs, e, h1, h2⟩
      · exact .inl h
      · exact .inr ⟨b, cs, e, (hw.block b (Array.getElem?_eq_some_iff.1 h1).1 (by simp [Value.ownBlock])).trans h1, h2⟩
    · exact h.grown hw hg
  refine ⟨fun k => if k = i then elOf N me (o i) va vc else e k, ?_, hB.grown hw hB.size (fun k h => (hO.lt k h).1), fun k hk' => ?_⟩
  · have e1 : flat4 (elc (fun k => if k = i then elOf N me (o i) va vc else e k)) (i + 1) = flat4 (elc e) i ++ [num (1 + (o i).f % N), num (led N me (o i).l), .slice va (o i).vn vc, .bool (o i).al] := by
      show flat4 _ i ++ elc _ i = _
      rw [flat4_congr (d := elc e) i (fun k hk => by simp [elc, show k ≠ i by omega])]
      simp [elc, elOf, El.v]
    rw [e1]
    exact hO'
  · by_cases e1 : k = i
    · subst e1
      exact ⟨va, vc, by simp, hV _ _ hi⟩
    · obtain ⟨va', vc', h1, h2⟩ := hk k (by omega)
      exact ⟨va', vc', by simp [e1, h1], hV _ _ h2⟩
/-- 'append' to a row of the call's own, as a step of a region that draws. -/
theorem step_append_own {P : Program} {ops : Array Oper} {o : Oper} {a : Act} {w : World} {K : Act → World → Prop} {Q : Exit → Act → World → Prop} {D : Prop}
    (hg : o.guard = none) (s x : Operand) (t : TypeId) (ho : o.op = Op.call { callee := Callee.builtin Builtin.append, args := #[s, x], argTypes := #[t, t] })
    (base : Nat) (e : TypeId) (i : TypeInfo) (z : Value) (size bytes : Nat) (ht : P.underlying t = some (.slice e)) (hi : P.info? e = some i) (hz : i.zero = some z) (hsize : i.size = size) (hby : i.bytes = bytes) (hzs : z.cells.size = size) (hsz : 0 < size)
    (v : Value) (n : Nat) (xs : List Value) (hs : a.eval s = v) (hown : w.ownsRow base e size v n xs) (ad : Addr) (m c : Nat) (news : List Value) (hx : a.eval x = .slice (some ad) m c) (hl : news.length = m * size) (hnews : ∀ j u, news[j]? = some u → w.cell? (ad.add j) = some u) (h1 : ∀ u ∈ news, u.oneCell' = true)
    (h63 : n + m ≤ maxLen) (hbytes : (n + m) * bytes ≤ 140737488355328) (hbase : base ≤ w.heap.size)
    (hK : ∀ v' w', w'.ownsRow base e size v' (n + m) (xs ++ news) → w.grownBy w' v.ownBlock → (v' = .slice none 0 0 ↔ v = .slice none 0 0 ∧ m = 0) → K (a.put o.dst v') w') :
    if Region.wanted o (yielded ops a.tmps) = true then Oper.wp P o a w K Q else D := by
  have hw : Region.wanted o (yielded ops a.tmps) = true := by simp [Region.wanted, hg]
  rw [if_pos hw]
  obtain ⟨v', w', hr, h2, h3, h4, _⟩ := run_append_own_at (P := P) w base t o.type e i z size bytes ht hi hz hsize hby hzs hsz v n xs hown ad m c news hl hnews h1 h63 hbytes hbase
  unfold Oper.wp execOp
  simp only [ho, resolve, invoke, builtin, Sem.run_bind, Sem.run_pure, Result.andThen_ok, List.map_toArray, List.map_cons, List.map_nil, hs, hx, hr]
  exact hK v' w' h2 h3 h4
theorem Ybaz.info3 : (Ybaz.prog.info? 3).map (fun i => (i.zero, i.size, i.bytes)) = some (some (.int .i64 0), 1, 8) := by kernel_rfl
theorem Ybaz.info29 : (Ybaz.prog.info? 29).map (fun i => (i.zero, i.size, i.bytes)) = some (some (.agg #[.int .i64 0, .int .i64 0, .slice none 0 0, .bool false]), 4, 48) := by kernel_rfl

set_option linter.unusedSimpArgs false in
set_option maxRecDepth 1000000 in
set_option maxHeartbeats 16000000 in
theorem lawMake (Fi : Go.Stop.Interp) (w0 V : World) (N T me k v0 n capr : Nat) (ao : Option Addr) (o : Nat → Rl) (hF : Fi.answers V.tape) (hN : 1 ≤ N ∧ N ≤ 7) (hT : T < N) (hme : 1 ≤ me ∧ me ≤ N) (hk : 1 ≤ k ∧ k ≤ 20) (hn : n ≤ 300) (hv : 1 ≤ v0 ∧ v0 ≤ 4)
    (hR : Raw V ao n o) (hvn : ∀ i, i < n → (o i).vn ≤ 300) (hB : Below w0.heap.size w0 V)
    (hr : ∀ E X, Srt E 0 n → (∀ i, i < n → 1 ≤ (E i).f ∧ (E i).f ≤ N) → (∀ i, i < n → ∀ x ∈ X i, x < 6) → propR (als E X) me n (N - T) (fun i => decide (v0 = i)) = wantR (als E X) me n N (N - T) (cnd (als E X) me (fun i => decide (v0 = i)) n) (hdc (frm (als E X) me n) N)) {u0 u1 u2 u3 u4 u6 u7 u8 u9 u10 u11 u12 u13 u19 u20 u21 u22 u23 u24 u25 u26 u27 u28 u29 u30 u31 u32 u33 u34 u35 u36 u37 u38 u39 u40 u41 u42 u43 u44 u45 u46 u47 u48 u49 u50 u51 u52 u53 u54 u55 u56 u57 u58 u59 u60 u61 u62 u63 u64 u65 u66 u67 u68 u69 u70 u71 u72 u73 u74 u75 u76 u77 u78 u79 u80 u81 u82 u83 u84 u85 u86 u87 u88 u89 u90 u91 u92 u93 u94 u95 u96 u97 u98 u99 u100 u101 u102 u103 u104 u105 u106 u107 u108 u109 u110 u111 u112 u113 u114 u115 u116 u117 u118 u119 u120 u121 u122 u123 u124 u125 u126 u127 u128 u129 u130 u131 u132 u133 u134 u135 u136 u137 u138 u139 u140 u141 u142 u143 u144 u145 u146 u147 u148 u149 u150 u151 u152 u153 u154 u155 u156 u157 u158 u159 u160 u161 u162 u163 u164 u165 u166 u167 u168 u169 u170 u171 u172 u173 u174 u175 u176 u177 u178 u179 u180 u181 u182 u183 u184 u185 u186 u187 u188 u189 u190 u191 u192 u193 u194 u195 u196 u197 u198 u199 u200 u201 u202 u203 u204 u205 u206 u207 u208 u209 u210 u211 u212 u213 u214 u215 u216 u217 u218 u219 u220 u221 u222 u223 u224 u225 u226 u227 u228 u229 u230 u231 u232 u233 u234 u235 u236 u237 u238 u239 u240 u241 u242 u243 u244 u245 u246 u247 u248 u249 u250 u251 u252 u253 u254 u255 u256 u257 u258 u259 u260 u261 u262 u263 u264 u265 u266 u267 u268 u269 u270 u271 u272 u273 u274 u275 u276 u277 u278 u279 u280 u281 u282 u283 u284 u285 u286 u287 u288 u289 u290 u291 u292 u293 u294 u295 u296 u297 u298 u299 u300 u301 u302 u303 u304 u305 u306 u307 u308 u309 u310 u311 u312 u313 u314 u315 u316 u317 u318 u319 u320 u321 u322 u323 u324 u325 u326 u327 u328 u329 u330 u331 u332 u333 u334 u335 u336 u337 u338 u339 u340 u341 u342 u343 u344 u345 u346 u347 u348 u349 u350 u351 u352 u353 u354 u355 u356 u357 u358 u359 u360 u361 u362 u363 : Value} :
    Code.wp Ybaz.prog law14 (bodyPost Ybaz.prog Ybaz.f3 (lawPost w0)) ⟨#[u0, u1, u2, u3, u4, .slice ao n capr, u6, u7, u8, u9, u10, u11, u12, u13, num N, num T, num me, num k, num v0, u19, u20, u21, u22, u23, u24, u25, u26, u27, u28, u29, u30, u31, u32, u33, u34, u35, u36, u37, u38, u39, u40, u41, u42, u43, u44, u45, u46, u47, u48, u49, u50, u51, u52, u53, u54, u55, u56, u57, u58, u59, u60, u61, u62, u63, u64, u65, u66, u67, u68, u69, u70, u71, u72, u73, u74, u75, u76, u77, u78, u79, u80, u81, u82, u83, u84, u85, u86, u87, u88, u89, u90, u91, u92, u93, u94, u95, u96, u97, u98, u99, u100, u101, u102, u103, u104, u105, u106, u107, u108, u109, u110, u111, u112, u113, u114, u115, u116, u117, u118, u119, u120, u121, u122, u123, u124, u125, u126, u127, u128, u129, u130, u131, u132, u133, u134, u135, u136, u137, u138, u139, u140, u141, u142, u143, u144, u145, u146, u147, u148, u149, u150, u151, u152, u153, u154, u155, u156, u157, u158, u159, u160, u161, u162, u163, u164, u165, u166, u167, u168, u169, u170, u171, u172, u173, u174, u175, u176, u177, u178, u179, u180, u181, u182, u183, u184, u185, u186, u187, u188, u189, u190, u191, u192, u193, u194, u195, u196, u197, u198, u199, u200, u201, u202, u203, u204, u205, u206, u207, u208, u209, u210, u211, u212, u213, u214, u215, u216, u217, u218, u219, u220, u221, u222, u223, u224, u225, u226, u227, u228, u229, u230, u231, u232, u233, u234, u235, u236, u237, u238, u239, u240, u241, u242, u243, u244, u245, u246, u247, u248, u249, u250, u251, u252, u253, u254, u255, u256, u257, u258, u259, u260, u261, u262, u263, u264, u265, u266, u267, u268, u269, u270, u271, u272, u273, u274, u275, u276, u277, u278, u279, u280, u281, u282, u283, u284, u285, u286, u287, u288, u289, u290, u291, u292, u293, u294, u295, u296, u297, u298, u299, u300, u301, u302, u303, u304, u305, u306, u307, u308, u309, u310, u311, u312, u313, u314, u315, u316, u317, u318, u319, u320, u321, u322, u323, u324, u325, u326, u327, u328, u329, u330, u331, u332, u333, u334, u335, u336, u337, u338, u339, u340, u341, u342, u343, u344, u345, u346, u347, u348, u349, u350, u351, u352, u353, u354, u355, u356, u357, u358, u359, u360, u361, u362, u363], []⟩ V := by
  have HG : Hid (Fi.answers V.tape ∧ Raw V ao n o ∧ Below w0.heap.size w0 V) := ⟨hF, hR, hB⟩
  have HVN : Hid (∀ i, i < n → (o i).vn ≤ 300) := hvn
  have HR : Hid _ := hr
  obtain ⟨i3, hi3, hz3, hs3, hb3⟩ := info_parts Ybaz.info3
  obtain ⟨i29, hi29, hz29, hs29, hb29⟩ := info_parts Ybaz.info29
  clear hF hR hB hvn hr
  conv => arg 2; whnf
  refine wp_seq_k (fun K0 hK0 => ?_)
  have H0 : Hid _ := hK0
  clear hK0
  go_wp2_with (at_make; refine wpList_make_own _ rfl _ _ 26 rfl V.heap.size 29 i29 _ 4 Ybaz.underlying26 hi29 hz29 hs29 _ _ _ n rfl rfl rfl (by rw [hb29]; omega) (by unfold maxLen; omega) (Nat.le_refl _) ?_; intro w1 hown1 hgr1)
  have HV1 : Hid (Mk V w1 N me 0 o (.slice (some ⟨V.heap.size, 0, none⟩) 0 n)) := ⟨fun _ => ⟨0, 0, none, 0, 0, false⟩, hown1, (Below.refl _ _).grown hgr1 (Nat.le_refl _) (fun k h => by cases h), fun k hk => absurd hk (Nat.not_lt_zero _)⟩
  clear hown1 hgr1
  refine H0.out _ _ (wp_seq_k (fun K1 hK1 => ?_))
  have H1 : Hid _ := hK1
  clear hK1 H0
  go_upto_region 16 with fail
  go_loopw [19, 97] (fun v19 v97 wr => ∃ i : Nat, i ≤ n ∧ v97 = num i ∧ (∃ gl capl, v19 = .slice (some ⟨gl, 0, none⟩) i capl) ∧ Mk V wr N me i o v19) (fun _ v _ => n - (intOf v).toNat)
  case atStart => exact ⟨0, Nat.zero_le _, rfl, ⟨_, _, rfl⟩, HV1.out⟩
  case round =>
    obtain ⟨i, hi, rfl, hform, hM⟩ := hrel
    clear HV1
    by_cases hlt : i < n
    · have g1 : (i : Int) < (n : Int) := by omega
      obtain ⟨b, off, hao, hbl, hc⟩ := HG.out.2.1.2 (by omega)
      obtain ⟨c0, c1, c2, c3⟩ := hc i hlt
      obtain ⟨e, hO, hBr, hK⟩ := hM
      have HM : Hid (wr.ownsRow V.heap.size 29 4 u19 i (flat4 (elc e) i) ∧ Below V.heap.size V wr ∧ ∀ k, k < i → ∃ va vc, e k = elOf N me (o k) va vc ∧ Vr wr va (six (o k).x (o k).vn)) := ⟨hO, hBr, hK⟩
      replace c0 := (hBr.cell hbl).trans c0
      replace c1 := (hBr.cell hbl).trans c1
      replace c2 := (hBr.cell hbl).trans c2
      replace c3 := (hBr.cell hbl).trans c3
      obtain ⟨r1, r2, r3⟩ := HG.out.2.1.1 i
      have r4 := HVN.out i hlt
      obtain ⟨r, hr⟩ : ∃ r, r = o i := ⟨_, rfl⟩
      rw [← hr] at c0 c1 c2 c3 r1 r2 r3 r4
      have HRI : Hid _ := hr
      have HBy : Hid (Bytes V r.va r.vn r.x) := r3
      have Hform : Hid _ := hform
      clear hc hO hBr hK hr r3 hform
      rw [hao]
      clear hao
      go_upto_region 18 with fail
      have hrow := Row.new wr 25 [.int .u8 (r.f : Int), .int .u8 (r.l : Int), .slice r.va r.vn r.vc, .bool r.al] _ rfl
      have y0 := hrow.cell 0
      have y1 := hrow.cell 1
      have y2 := hrow.cell 2
      have y3 := hrow.cell 3
      simp only [List.getElem?_cons_zero, List.getElem?_cons_succ] at y0 y1 y2 y3
      generalize hbv : wr.heap.size = bv at hrow y0 y1 y2 y3 ⊢
      generalize hVV : World.alloc wr _ = V4 at hrow y0 y1 y2 y3 ⊢
      have H4 : Hid (V4.ownsRow V.heap.size 29 4 u19 i (flat4 (elc e) i) ∧ Below V.heap.size V V4 ∧ (∀ k, k < i → ∃ va vc, e k = elOf N me (o k) va vc ∧ Vr V4 va (six (o k).x (o k).vn)) ∧ Row V4 bv 25 [.int .u8 (r.f : Int), .int .u8 (r.l : Int), .slice r.va r.vn r.vc, .bool r.al]) := by
        obtain ⟨a1, a2, a3⟩ := HM.out
        have hb4 : Below wr.heap.size wr V4 := by
          rw [← hVV]
          exact (Below.refl _ _).alloc (Nat.le_refl _) _
        refine ⟨own_keep a1 hb4, a2.trans (hb4.mono a2.size), fun k hk => ?_, hrow⟩
        obtain ⟨va, vc, h1, h2⟩ := a3 k hk
        exact ⟨va, vc, h1, h2.below hb4⟩
      clear hVV hbv c0 c1 c2 c3 HM hrow
      go_upto_region 19 with fail
      go_upto_if 105 with fail
      go_cut [22] (fun v wx => v = num (led N me r.l) ∧ wx = V4)
      case first =>
        by_cases hodd : r.l % 2 = 1
        · have hled : led N me r.l = 1 + r.l / 2 % N := if_pos hodd
          have HL : Hid _ := hled
          have b1 : ((r.l : Int) % 2 == 1) = true := by simp; omega
          obtain ⟨p, hp⟩ : ∃ p, p = r.l / 2 := ⟨_, rfl⟩
          obtain ⟨q, hq⟩ : ∃ q, q = p % N := ⟨_, rfl⟩
          have e1 : (r.l : Int) / 2 = (p : Int) := by omega
          have e2 : (p : Int) % (N : Int) = (q : Int) := by rw [hq]; rfl
          have e2' : (p : Int).tmod (N : Int) = (q : Int) := by rw [hq]; exact (Int.ofNat_tmod p N).symm
          have hql : q < N := by rw [hq]; exact Nat.mod_lt _ (by omega)
          have e3 : IntKind.i64.wrap (q : Int) = (q : Int) := by rw [IntKind.wrap_i64]; omega
          have e4 : IntKind.i64.wrap (p : Int) = (p : Int) := by rw [IntKind.wrap_i64]; omega
          have e6 : IntKind.i64.wrap (1 + (q : Int)) = 1 + (q : Int) := by rw [IntKind.wrap_i64]; omega
          have e7 : ¬ (N : Int) = 0 := by omega
          have e8 : ((N : Int) == 0) = false := by simp; omega
          have e9 : ¬ N = 0 := by omega
          have HQ : Hid (led N me r.l = 1 + q) := by
            show led N me r.l = 1 + q
            rw [HL.out, hq, hp]
          clear hp hq hled HL
          go_wp2_with fail
          go_meet
          exact ⟨by rw [HQ.out]; simp, rfl⟩
        · have hled : led N me r.l = me := if_neg hodd
          have HL : Hid _ := hled
          have b1 : ((r.l : Int) % 2 == 1) = false := by simp; omega
          clear hled
          go_wp2_with fail
          go_meet
          exact ⟨by rw [HL.out], rfl⟩
      case rest =>
        obtain ⟨rfl, rfl⟩ := hcut
        generalize hlv : led N me r.l = lv
        have Hlv : Hid _ := hlv
        clear hlv
        go_upto_region 22 with (at_make; refine wpList_make_own _ rfl _ _ 27 rfl wc.heap.size 3 i3 _ 1 Ybaz.underlying27 hi3 hz3 hs3 _ _ _ r.vn rfl rfl rfl (by rw [hb3]; omega) (by unfold maxLen; omega) (Nat.le_refl _) ?_; intro w5 hown5 hgr5)
        have hb5 : Below wc.heap.size wc w5 := (Below.refl _ _).grown hgr5 (Nat.le_refl _) (fun k h => by cases h)
        have H5 : Hid (w5.ownsRow wc.heap.size 3 1 (.slice (some ⟨wc.heap.size, 0, none⟩) 0 r.vn) 0 ((six r.x 0).map num) ∧ Below wc.heap.size wc w5) := ⟨hown5, hb5⟩
        have y2' := (hb5.cell H4.out.2.2.2.lt).trans y2
        clear hown5 hgr5 hb5 y0 y1 y2 y3
        go_upto_region 23 with fail
        clear y2'
        go_loopw [23, 120] (fun v23 v120 wq => ∃ j : Nat, j ≤ r.vn ∧ v120 = num j ∧ wq.ownsRow wc.heap.size 3 1 v23 j ((six r.x j).map num) ∧ Below wc.heap.size wc wq) (fun _ v _ => r.vn - (intOf v).toNat)
        case atStart => exact ⟨0, Nat.zero_le _, rfl, H5.out.1, H5.out.2⟩
        case round =>
          obtain ⟨j, hj, rfl, q1, q2⟩ := hrel
          clear H5
          by_cases hjl : j < r.vn
          · have g2 : (j : Int) < (r.vn : Int) := by omega
            obtain ⟨b2, off2, hva, hbl2, hc2⟩ := HBy.out.2 (by omega)
            have hVq := H4.out.2.1.trans (q2.mono H4.out.2.1.size)
            have hcx := (hVq.cell hbl2).trans (hc2 j hjl)
            have hx := HBy.out.1 j
            have HQ : Hid (wr.ownsRow wc.heap.size 3 1 u23 j ((six r.x j).map num) ∧ Below wc.heap.size wc wr) := ⟨q1, q2⟩
            clear q1 q2 hVq hc2
            obtain ⟨x, hxe⟩ : ∃ x, x = r.x j := ⟨_, rfl⟩
            rw [← hxe] at hcx hx
            obtain ⟨y, hy⟩ : ∃ y, y = x % 6 := ⟨_, rfl⟩
            have e1 : (x : Int) % 6 = (y : Int) := by omega
            have e2 : IntKind.i64.wrap (y : Int) = (y : Int) := by rw [IntKind.wrap_i64]; omega
            have e3 : IntKind.i64.wrap (x : Int) = (x : Int) := by rw [IntKind.wrap_i64]; omega
            have e4 : (x : Int).tmod 6 = (y : Int) := by rw [hy]; exact (Int.ofNat_tmod x 6).symm
            have hB6 := (Below.refl wr.heap.size wr).alloc (Nat.le_refl _) (.cells #[num y] 3)
            have HC6 : Hid ((wr.alloc (.cells #[num y] 3)).ownsRow wc.heap.size 3 1 u23 j ((six r.x j).map num) ∧ Below wc.heap.size wc (wr.alloc (.cells #[num y] 3))) := ⟨own_keep HQ.out.1 hB6, HQ.out.2.trans (hB6.mono HQ.out.2.size)⟩
            have HXY : Hid (y = r.x j % 6) := by
              show y = r.x j % 6
              rw [hy, hxe]
            clear hB6 hy hxe HQ
            rw [hva]
            go_wp2_with (at_builtin; refine wpList_append_own_at _ rfl _ _ 27 rfl wc.heap.size 3 i3 _ 1 8 Ybaz.underlying27 hi3 hz3 hs3 hb3 rfl (by decide) u23 j ((six r.x j).map num) rfl HC6.out.1 ⟨wr.heap.size, 0, none⟩ 1 1 [num y] rfl rfl (cell_one_new _ _ _) (by simp [Value.oneCell']) (by unfold maxLen; omega) (by omega) HC6.out.2.size ?_; intro v' w6 hown' hgrow hnil hlies)
            go_roundw
            case rel =>
              refine ⟨j + 1, by omega, by simp, ?_, ?_⟩
              · rw [six_succ, List.map_append, ← HXY.out]
                exact hown'
              · exact HC6.out.2.grown hgrow HC6.out.2.size (fun k h => (HC6.out.1.lt k h).1)
            case measure => simp [intOf]; omega
          · obtain rfl : j = r.vn := by omega
            obtain ⟨va, vc, rfl, hVr⟩ := Vr.of_own (six_len _ _) q1
            obtain ⟨gl, capl, rfl⟩ := Hform.out
            have hbw := H4.out.2.2.2.below q2 H4.out.2.2.2.lt
            have y0 := hbw.cell 0
            have y3 := hbw.cell 3
            simp only [List.getElem?_cons_zero, List.getElem?_cons_succ] at y0 y3
            have H7 : Hid (wr.ownsRow V.heap.size 29 4 (.slice (some ⟨gl, 0, none⟩) i capl) i (flat4 (elc e) i) ∧ Below V.heap.size V wr ∧ (∀ k, k < i → ∃ va vc, e k = elOf N me (o k) va vc ∧ Vr wr va (six (o k).x (o k).vn)) ∧ Vr wr va (six r.x r.vn) ∧ Row wr bv 25 [.int .u8 (r.f : Int), .int .u8 (r.l : Int), .slice r.va r.vn r.vc, .bool r.al]) := by
              obtain ⟨a1, a2, a3, _⟩ := H4.out
              refine ⟨own_keep a1 q2, a2.trans (q2.mono a2.size), fun k hk => ?_, hVr, hbw⟩
              obtain ⟨va, vc, h1, h2⟩ := a3 k hk
              exact ⟨va, vc, h1, h2.below q2⟩
            clear q1 q2 hVr hbw H4 Hform
            obtain ⟨rf, hrf⟩ : ∃ rf, r.f = rf := ⟨_, rfl⟩
            obtain ⟨rn, hrn⟩ : ∃ rn, r.vn = rn := ⟨_, rfl⟩
            obtain ⟨ral, hral⟩ : ∃ ral, r.al = ral := ⟨_, rfl⟩
            rw [hrf] at y0 r1
            rw [hral] at y3
            rw [hrn]
            obtain ⟨q, hq⟩ : ∃ q, q = rf % N := ⟨_, rfl⟩
            obtain ⟨s, hs⟩ : ∃ s, s = 1 + q := ⟨_, rfl⟩
            have e2 : (rf : Int) % (N : Int) = (q : Int) := by rw [hq]; rfl
            have e2' : (rf : Int).tmod (N : Int) = (q : Int) := by rw [hq]; exact (Int.ofNat_tmod rf N).symm
            have hql : q < N := by rw [hq]; exact Nat.mod_lt _ (by omega)
            have e3 : IntKind.i64.wrap (q : Int) = (q : Int) := by rw [IntKind.wrap_i64]; omega
            have e4 : IntKind.i64.wrap (rf : Int) = (rf : Int) := by rw [IntKind.wrap_i64]; omega
            have e5 : (1 : Int) + (q : Int) = (s : Int) := by omega
            have e6 : IntKind.i64.wrap (s : Int) = (s : Int) := by rw [IntKind.wrap_i64]; omega
            have e7 : ¬ (N : Int) = 0 := by omega
            have e8 : ((N : Int) == 0) = false := by simp; omega
            have e9 : ¬ N = 0 := by omega
            have HS : Hid (s = 1 + r.f % N ∧ r.vn = rn ∧ r.al = ral) := ⟨by rw [hs, hq, hrf], hrn, hral⟩
            clear hs hq hrf hrn hral
            go_upto_region 27 with fail
            refine wp_region_held_drew (S := fun W => W.cell? ⟨bv, 0, none⟩ = some (.int .u8 (rf : Int)) ∧ W.cell? ⟨bv, 3, none⟩ = some (.bool ral)) (by kernel_rfl) ⟨y0, y3⟩ (fun hHeld => ?_)
            refine held_take (i := 0) (d := some 131) (v := (.slice (some ⟨gl, 0, none⟩) i capl)) rfl rfl (by kernel_rfl) (by kernel_rfl) (by kernel_rfl) (fun _ _ _ h => h) (Or.inl ⟨by rfl, fun w hSw => by go_simp⟩) (by assumption) ?_
            try simp only [Act.put, List.setIfInBounds_toArray, List.set_cons_zero, List.set_cons_succ]
            refine held_take (i := 1) (d := some 132) (v := (.pointer (some ⟨bv, 0, none⟩))) rfl rfl (by kernel_rfl) (by kernel_rfl) (by kernel_rfl) (fun _ _ _ h => h) (Or.inl ⟨by rfl, fun w hSw => by go_simp⟩) (by assumption) ?_
            try simp only [Act.put, List.setIfInBounds_toArray, List.set_cons_zero, List.set_cons_succ]
            refine held_take (i := 2) (d := some 133) (v := (.int .u8 (rf : Int))) rfl rfl (by kernel_rfl) (by kernel_rfl) (by kernel_rfl) (fun _ _ _ h => h) (Or.inl ⟨by rfl, fun w hSw => by (try dsimp only at hSw); go_simp⟩) (by assumption) ?_
            try simp only [Act.put, List.setIfInBounds_toArray, List.set_cons_zero, List.set_cons_succ]
            refine held_take (i := 3) (d := some 134) (v := (.int .i64 (rf : Int))) rfl rfl (by kernel_rfl) (by kernel_rfl) (by kernel_rfl) (fun _ _ _ h => h) (Or.inl ⟨by rfl, fun w hSw => by go_simp⟩) (by assumption) ?_
            try simp only [Act.put, List.setIfInBounds_toArray, List.set_cons_zero, List.set_cons_succ]
            refine held_take (i := 4) (d := some 135) (v := (num N)) rfl rfl (by kernel_rfl) (by kernel_rfl) (by kernel_rfl) (fun _ _ _ h => h) (Or.inl ⟨by rfl, fun w hSw => by go_simp⟩) (by assumption) ?_
            try simp only [Act.put, List.setIfInBounds_toArray, List.set_cons_zero, List.set_cons_succ]
            refine held_take (i := 5) (d := some 136) (v := (num q)) rfl rfl (by kernel_rfl) (by kernel_rfl) (by kernel_rfl) (fun _ _ _ h => h) (Or.inl ⟨by rfl, fun w hSw => by go_simp⟩) (by assumption) ?_
            try simp only [Act.put, List.setIfInBounds_toArray, List.set_cons_zero, List.set_cons_succ]
            refine held_take (i := 6) (d := some 137) (v := (num s)) rfl rfl (by kernel_rfl) (by kernel_rfl) (by kernel_rfl) (fun _ _ _ h => h) (Or.inl ⟨by rfl, fun w hSw => by go_simp⟩) (by assumption) ?_
            try simp only [Act.put, List.setIfInBounds_toArray, List.set_cons_zero, List.set_cons_succ]
            refine held_take (i := 7) (d := some 138) (v := (num lv)) rfl rfl (by kernel_rfl) (by kernel_rfl) (by kernel_rfl) (fun _ _ _ h => h) (Or.inl ⟨by rfl, fun w hSw => by go_simp⟩) (by assumption) ?_
            try simp only [Act.put, List.setIfInBounds_toArray, List.set_cons_zero, List.set_cons_succ]
            refine held_take (i := 8) (d := some 139) (v := (.slice va rn vc)) rfl rfl (by kernel_rfl) (by kernel_rfl) (by kernel_rfl) (fun _ _ _ h => h) (Or.inl ⟨by rfl, fun w hSw => by go_simp⟩) (by assumption) ?_
            try simp only [Act.put, List.setIfInBounds_toArray, List.set_cons_zero, List.set_cons_succ]
            refine held_take (i := 9) (d := some 140) (v := (.pointer (some ⟨bv, 3, none⟩))) rfl rfl (by kernel_rfl) (by kernel_rfl) (by kernel_rfl) (fun _ _ _ h => h) (Or.inl ⟨by rfl, fun w hSw => by go_simp⟩) (by assumption) ?_
            try simp only [Act.put, List.setIfInBounds_toArray, List.set_cons_zero, List.set_cons_succ]
            refine held_take (i := 10) (d := some 141) (v := (.bool ral)) rfl rfl (by kernel_rfl) (by kernel_rfl) (by kernel_rfl) (fun _ _ _ h => h) (Or.inl ⟨by rfl, fun w hSw => by (try dsimp only at hSw); go_simp⟩) (by assumption) ?_
            try simp only [Act.put, List.setIfInBounds_toArray, List.set_cons_zero, List.set_cons_succ]
            refine held_take (i := 11) (d := some 142) (v := (.agg #[num s, num lv, .slice va rn vc, .bool ral])) rfl rfl (by kernel_rfl) (by kernel_rfl) (by kernel_rfl) (fun _ _ _ h => h) (Or.inl ⟨by rfl, fun w hSw => by go_simp⟩) (by assumption) ?_
            try simp only [Act.put, List.setIfInBounds_toArray, List.set_cons_zero, List.set_cons_succ]
            refine wpAnyH_ready (rs := [12]) (by kernel_rfl) (by simp) ?_
            refine AllReadyH.cons rfl (fun K hK => ?_) AllReadyH.nil
            go_simp
            have H8 : Hid ((wr.alloc (.cells #[num s, num lv, .slice va rn vc, .bool ral] 29)).drew.ownsRow V.heap.size 29 4 (.slice (some ⟨gl, 0, none⟩) i capl) i (flat4 (elc e) i) ∧ (∀ j u, [num s, num lv, .slice va rn vc, .bool ral][j]? = some u → (wr.alloc (.cells #[num s, num lv, .slice va rn vc, .bool ral] 29)).drew.cell? ((⟨wr.heap.size, 0, none⟩ : Addr).add j) = some u) ∧ Below V.heap.size V (wr.alloc (.cells #[num s, num lv, .slice va rn vc, .bool ral] 29)).drew ∧ Below wr.heap.size wr (wr.alloc (.cells #[num s, num lv, .slice va rn vc, .bool ral] 29)).drew) := by
              have hB8 := ((Below.refl wr.heap.size wr).alloc (Nat.le_refl _) (.cells #[num s, num lv, .slice va rn vc, .bool ral] 29)).drew
              obtain ⟨a1, a2, a3, a4, a5⟩ := H7.out
              refine ⟨own_keep a1 hB8, fun j u hu => ?_, a2.trans (hB8.mono a2.size), hB8⟩
              rw [add0]
              exact ((Row.new wr 29 [num s, num lv, .slice va rn vc, .bool ral] _ rfl).cell j).trans hu
            refine hK.out _ _ ⟨keepA y0, keepA y3⟩ (fun hHeld2 => ?_)
            clear hK K
            generalize hWA : (wr.alloc (.cells #[num s, num lv, .slice va rn vc, .bool ral] 29)).drew = WA at H8 hHeld2 ⊢
            refine wpAnyH_ready (rs := [13]) (by kernel_rfl) (by simp) ?_
            refine AllReadyH.cons rfl (fun K hK => ?_) AllReadyH.nil
            refine step_append_own rfl _ _ 26 rfl V.heap.size 29 i29 _ 4 48 Ybaz.underlying26 hi29 hz29 hs29 hb29 rfl (by decide) (.slice (some ⟨gl, 0, none⟩) i capl) i (flat4 (elc e) i) rfl H8.out.1 ⟨wr.heap.size, 0, none⟩ 1 1 [num s, num lv, .slice va rn vc, .bool ral] rfl rfl H8.out.2.1 (by simp [Value.oneCell']) (by unfold maxLen; omega) (by omega) H8.out.2.2.1.size ?_
            intro v' w8 hown' hgrow hnil
            have hS8 : w8.cell? ⟨bv, 0, none⟩ = some (.int .u8 (rf : Int)) ∧ w8.cell? ⟨bv, 3, none⟩ = some (.bool ral) := by
              have hbl := H7.out.2.2.2.2.lt
              have hne : some bv ≠ (Value.slice (some ⟨gl, 0, none⟩) i capl).ownBlock := by
                intro h
                exact H7.out.2.2.2.2.ne_own H7.out.1 (by decide) (Option.some.inj h)
              have hbk := hgrow.block bv (Nat.lt_of_lt_of_le hbl H8.out.2.2.2.size) hne
              exact ⟨(World.cell?_of_block (w := WA) hbk).trans hHeld2.1, (World.cell?_of_block (w := WA) hbk).trans hHeld2.2⟩
            refine hK.out _ _ hS8 (fun hHeld3 => ?_)
            clear hK K
            try simp only [Act.put, List.setIfInBounds_toArray, List.set_cons_zero, List.set_cons_succ]
            have HO9 : Hid (w8.ownsRow V.heap.size 29 4 v' (i + 1) (flat4 (elc e) i ++ [num s, num lv, .slice va rn vc, .bool ral]) ∧ WA.grownBy w8 (some gl)) := ⟨hown', hgrow⟩
            obtain ⟨g', cap', rfl⟩ : ∃ g' cap', v' = .slice (some ⟨g', 0, none⟩) (i + 1) cap' := by
              rcases hown'.2 with ⟨rfl, h0⟩ | ⟨g', cap', cur, rfl, _⟩
              · exact absurd (hnil.1 rfl).1 (by simp)
              · exact ⟨g', cap', rfl⟩
            clear hown' hgrow hnil
            refine held_take (i := 14) (d := some 19) (v := .slice (some ⟨g', 0, none⟩) (i + 1) cap') rfl rfl (by kernel_rfl) (by kernel_rfl) (by kernel_rfl) (fun _ _ _ h => h) (Or.inl ⟨by rfl, fun w hSw => by go_simp⟩) (by assumption) ?_
            try simp only [Act.put, List.setIfInBounds_toArray, List.set_cons_zero, List.set_cons_succ]
            refine wpAnyH_done (by kernel_rfl) ?_ _
            go_wp2_with fail
            go_roundw
            case rel =>
              refine ⟨i + 1, by omega, by simp, ⟨_, _, rfl⟩, ?_⟩
              obtain ⟨a1, a2, a3, a4, a5⟩ := H7.out
              obtain ⟨b1, b2, b3, b4⟩ := H8.out
              obtain ⟨s1, s2, s3⟩ := HS.out
              refine Mk.more (e := e) (va := va) (vc := vc) b1 b3 (fun k hk => ?_) ?_ ?_ HO9.out.2
              · obtain ⟨va', vc', h1, h2⟩ := a3 k hk
                exact ⟨va', vc', h1, h2.below b4⟩
              · rw [← HRI.out]
                exact a4.below b4
              · rw [← HRI.out, ← s1, Hlv.out, s2, s3]
                exact HO9.out.1
            case measure => simp [intOf]; omega
    · obtain rfl : i = n := by omega
      obtain ⟨gl, capl, rfl⟩ := hform
      obtain ⟨e, hPre, hgV⟩ := hM.pre hN hme HVN.out
      obtain ⟨_, _, hBr, _⟩ := hM
      go_wp2_with fail
      exact H1.out _ _ (lawSort Fi w0 wr N T me k v0 gl i capl e _ (by rw [hBr.tape]; exact HG.out.1) hN hT hme hk hn hv hPre (Nat.le_trans HG.out.2.2.size hgV) (HG.out.2.2.trans (hBr.mono HG.out.2.2.size)) HR.out)
end Propose
end Go.Proofs.YbulkcrfgGreatFmt
