/-
  LawS4647BPropose: the member is made, its phase laid, propose called.
-/
import Derived.Test.YbulkcrfgGreatFmtHeard
namespace Go.Proofs.YbulkcrfgGreatFmt
open Go.RowKit
namespace Propose
open Kit

theorem filter_one (v : Nat) (h : v < 6) : ord.filter (fun i => decide (v = i)) = [v] := by
  obtain rfl | rfl | rfl | rfl | rfl | rfl : v = 0 ∨ v = 1 ∨ v = 2 ∨ v = 3 ∨ v = 4 ∨ v = 5 := by omega
  all_goals rfl
theorem cs_one {W : World} {g v : Nat} (h : v < 6) (hr : Row W g 9 [str (poolL v)]) : Cs W (.slice (some ⟨g, 0, none⟩) 1 1) (fun i => decide (v = i)) := by
  refine ⟨g, 1, by rw [filter_one v h]; rfl, hr.lt, fun j u hu => ?_⟩
  rw [filter_one v h] at hu
  rw [hr.cell]
  exact hu
theorem keepX {w : World} {p a : Addr} {u v : Value} (hn : p.block ≠ a.block) (h : w.cell? a = some v) : (w.setCell p u).cell? a = some v := (World.cell?_setCell_far w p a u hn).trans h
theorem okl_of {W : World} {g n : Nat} {E : Nat → El} {X : Nat → List Nat} (h : Lst W g n E X) : Okl n (als E X) := fun i hi => ⟨(h.ok i hi).lt, (h.ok i hi).len, (h.ok i hi).f.1, (h.ok i hi).f.2, (h.ok i hi).l.2⟩

set_option linter.unusedSimpArgs false in
set_option maxRecDepth 1000000 in
set_option maxHeartbeats 16000000 in
theorem lawNew (Fi : Go.Stop.Interp) (w0 V : World) (N T me k v0 g n cap gl capl : Nat) (E : Nat → El) (X : Nat → List Nat) (hF : Fi.answers V.tape) (hN : 1 ≤ N ∧ N ≤ 7) (hT : T < N) (hme : 1 ≤ me ∧ me ≤ N) (hk : 1 ≤ k ∧ k ≤ 20) (hn : n ≤ 300) (hv : 1 ≤ v0 ∧ v0 ≤ 4)
    (hE : Lst V g n E X) (hA : LArr V gl n (als E X)) (hB : Below w0.heap.size w0 V)
    (hr : propR (als E X) me n (N - T) (fun i => decide (v0 = i)) = wantR (als E X) me n N (N - T) (cnd (als E X) me (fun i => decide (v0 = i)) n) (hdc (frm (als E X) me n) N)) {u0 u1 u2 u3 u4 u5 u6 u7 u8 u9 u10 u11 u12 u13 u20 u21 u22 u23 u24 u25 u27 u28 u29 u30 u31 u32 u33 u34 u35 u36 u37 u38 u39 u40 u41 u42 u43 u44 u45 u46 u47 u48 u49 u50 u51 u52 u53 u54 u55 u56 u57 u58 u59 u60 u61 u62 u63 u64 u65 u66 u67 u68 u69 u70 u71 u72 u73 u74 u75 u76 u77 u78 u79 u80 u81 u82 u83 u84 u85 u86 u87 u88 u89 u90 u91 u92 u93 u94 u95 u96 u97 u98 u99 u100 u101 u102 u103 u104 u105 u106 u107 u108 u109 u110 u111 u112 u113 u114 u115 u116 u117 u118 u119 u120 u121 u122 u123 u124 u125 u126 u127 u128 u129 u130 u131 u132 u133 u134 u135 u136 u137 u138 u139 u140 u141 u142 u143 u144 u145 u146 u147 u148 u149 u150 u151 u152 u153 u154 u155 u156 u157 u158 u159 u160 u161 u162 u163 u164 u165 u166 u167 u168 u169 u170 u171 u172 u173 u174 u175 u176 u177 u178 u179 u180 u181 u182 u183 u184 u185 u186 u187 u188 u189 u190 u191 u192 u193 u194 u195 u196 u197 u198 u199 u200 u201 u202 u203 u204 u205 u206 u207 u208 u209 u210 u211 u212 u213 u214 u215 u216 u217 u218 u219 u220 u221 u222 u223 u224 u225 u226 u227 u228 u229 u230 u231 u232 u233 u234 u235 u236 u237 u238 u239 u240 u241 u242 u243 u244 u245 u246 u247 u248 u249 u250 u251 u252 u253 u254 u255 u256 u257 u258 u259 u260 u261 u262 u263 u264 u265 u266 u267 u268 u269 u270 u271 u272 u273 u274 u275 u276 u277 u278 u279 u280 u281 u282 u283 u284 u285 u286 u287 u288 u289 u290 u291 u292 u293 u294 u295 u296 u297 u298 u299 u300 u301 u302 u303 u304 u305 u306 u307 u308 u309 u310 u311 u312 u313 u314 u315 u316 u317 u318 u319 u320 u321 u322 u323 u324 u325 u326 u327 u328 u329 u330 u331 u332 u333 u334 u335 u336 u337 u338 u339 u340 u341 u342 u343 u344 u345 u346 u347 u348 u349 u350 u351 u352 u353 u354 u355 u356 u357 u358 u359 u360 u361 u362 u363 : Value} :
    Code.wp Ybaz.prog law44 (bodyPost Ybaz.prog Ybaz.f3 (lawPost w0)) ⟨#[u0, u1, u2, u3, u4, u5, u6, u7, u8, u9, u10, u11, u12, u13, num N, num T, num me, num k, num v0, .slice (some ⟨g, 0, none⟩) n cap, u20, u21, u22, u23, u24, u25, .slice (some ⟨gl, 0, none⟩) n capl, u27, u28, u29, u30, u31, u32, u33, u34, u35, u36, u37, u38, u39, u40, u41, u42, u43, u44, u45, u46, u47, u48, u49, u50, u51, u52, u53, u54, u55, u56, u57, u58, u59, u60, u61, u62, u63, u64, u65, u66, u67, u68, u69, u70, u71, u72, u73, u74, u75, u76, u77, u78, u79, u80, u81, u82, u83, u84, u85, u86, u87, u88, u89, u90, u91, u92, u93, u94, u95, u96, u97, u98, u99, u100, u101, u102, u103, u104, u105, u106, u107, u108, u109, u110, u111, u112, u113, u114, u115, u116, u117, u118, u119, u120, u121, u122, u123, u124, u125, u126, u127, u128, u129, u130, u131, u132, u133, u134, u135, u136, u137, u138, u139, u140, u141, u142, u143, u144, u145, u146, u147, u148, u149, u150, u151, u152, u153, u154, u155, u156, u157, u158, u159, u160, u161, u162, u163, u164, u165, u166, u167, u168, u169, u170, u171, u172, u173, u174, u175, u176, u177, u178, u179, u180, u181, u182, u183, u184, u185, u186, u187, u188, u189, u190, u191, u192, u193, u194, u195, u196, u197, u198, u199, u200, u201, u202, u203, u204, u205, u206, u207, u208, u209, u210, u211, u212, u213, u214, u215, u216, u217, u218, u219, u220, u221, u222, u223, u224, u225, u226, u227, u228, u229, u230, u231, u232, u233, u234, u235, u236, u237, u238, u239, u240, u241, u242, u243, u244, u245, u246, u247, u248, u249, u250, u251, u252, u253, u254, u255, u256, u257, u258, u259, u260, u261, u262, u263, u264, u265, u266, u267, u268, u269, u270, u271, u272, u273, u274, u275, u276, u277, u278, u279, u280, u281, u282, u283, u284, u285, u286, u287, u288, u289, u290, u291, u292, u293, u294, u295, u296, u297, u298, u299, u300, u301, u302, u303, u304, u305, u306, u307, u308, u309, u310, u311, u312, u313, u314, u315, u316, u317, u318, u319, u320, u321, u322, u323, u324, u325, u326, u327, u328, u329, u330, u331, u332, u333, u334, u335, u336, u337, u338, u339, u340, u341, u342, u343, u344, u345, u346, u347, u348, u349, u350, u351, u352, u353, u354, u355, u356, u357, u358, u359, u360, u361, u362, u363], []⟩ V := by
  have HG : Hid (Fi.answers V.tape ∧ Lst V g n E X ∧ LArr V gl n (als E X) ∧ Below w0.heap.size w0 V) := ⟨hF, hE, hA, hB⟩
  have HR : Hid (propR (als E X) me n (N - T) (fun i => decide (v0 = i)) = wantR (als E X) me n N (N - T) (cnd (als E X) me (fun i => decide (v0 = i)) n) (hdc (frm (als E X) me n) N)) := hr
  clear hF hE hA hB hr
  conv => arg 2; whnf
  refine wp_seq_k (fun K0 hK0 => ?_)
  have H0 : Hid _ := hK0
  clear hK0
  go_wp2_with (first | (go_at_call 8; refine (pool_ok v0 (by omega) _).mono ?_; rintro e w1 ⟨rfl, hb1⟩) | (go_at_call 10; refine (newLocks N T me v0 w1 hN hT hme hv).mono ?_; rintro e w2 ⟨m, eb, S, mb, ph, gp, pl, rfl, j1, j2, j3, j4, j5, j6, j7, j8, j9, j10, j11, hb2⟩))
  have HM : Hid (LkRow w2 m N T me (.slice (some ⟨gp, 0, none⟩) 1 1) (ptr eb) (.slice (some ⟨ph, 0, none⟩) N N) (.string ⟨#[]⟩) (.int .i64 0) ∧ Row w2 gp 9 [str (poolL v0)] ∧ Row w2 ph 54 pl ∧ MRow w2 eb S mb ∧ MapE w2 mb ∧ V.heap.size ≤ m ∧ V.heap.size ≤ mb ∧ V.heap.size ≤ ph ∧ Below V.heap.size V w2) := by
    have hs := hb1.size
    exact ⟨j1, j2, j3, j5, j6, by omega, by omega, by omega, hb1.trans (hb2.mono hs)⟩
  clear hb1 j1 j2 j3 j5 j6 j7 j8 j9 j10 j11 hb2
  refine H0.out _ _ (wp_seq_k (fun K1 hK1 => ?_))
  have H1 : Hid _ := hK1
  clear hK1 H0
  go_wp2_with fail
  refine H1.out _ _ (wp_seq_k (fun K2 hK2 => ?_))
  have H2 : Hid _ := hK2
  clear hK2 H1
  have c12 := HM.out.1.cells.2.2.2.2.2.1
  obtain ⟨p, hp⟩ : ∃ p, p = k - 1 := ⟨_, rfl⟩
  obtain ⟨j, hj⟩ : ∃ j, j = (k - 1) % N := ⟨_, rfl⟩
  have e1 : (k : Int) - 1 = (p : Int) := by omega
  have e2 : IntKind.i64.wrap (p : Int) = (p : Int) := by rw [IntKind.wrap_i64]; omega
  have hjl : j < N := by rw [hj]; exact Nat.mod_lt _ (by omega)
  have e3 : (p : Int).tmod (N : Int) = (j : Int) := by rw [hj, ← hp]; exact (Int.ofNat_tmod p N).symm
  have e4 : IntKind.i64.wrap (j : Int) = (j : Int) := by rw [IntKind.wrap_i64]; omega
  have e5 : ¬ (N : Int) = 0 := by omega
  have e6 : ((N : Int) == 0) = false := by simp; omega
  have g1 : (j : Int) < (N : Int) := by omega
  have e7 : (p : Int) % (N : Int) = (j : Int) := by rw [hj, ← hp]; rfl
  have cph : ∃ u, w2.cell? ⟨ph, j * 2 + 1, none⟩ = some u := ⟨pl[j * 2 + 1], by rw [HM.out.2.2.1.cell]; simp⟩
  obtain ⟨u, cph⟩ := cph
  have fph := HM.out.2.2.1.frozen (j * 2 + 1)
  have Hj : Hid _ := hj
  have n12 := World.new_ne w2 _ c12
  have nph := World.new_ne w2 _ cph
  have hmp : m ≠ ph := by
    obtain ⟨r, r1, _⟩ := HM.out.1
    rintro rfl
    have := r1.symm.trans HM.out.2.2.1
    simp at this
  clear hj hp
  have hN0 : ¬ N = 0 := by omega
  have hml := World.block_lt_of_cell? w2 _ c12
  have hpl := World.block_lt_of_cell? w2 _ cph
  have hm1 : ∀ A, (w2.alloc A).cell? ⟨m, 12, none⟩ = some (.slice (some ⟨ph, 0, none⟩) N N) := fun A => keepA c12
  have hm2 : ∀ A B, ((w2.alloc A).alloc B).cell? ⟨m, 12, none⟩ = some (.slice (some ⟨ph, 0, none⟩) N N) := fun A B => keepA (keepA c12)
  have hc1 : ∀ A B, ((w2.alloc A).alloc B).cell? ⟨ph, j * 2 + 1, none⟩ = some u := fun A B => keepA (keepA cph)
  have hf1 : ∀ A B, ((w2.alloc A).alloc B).frozen? ⟨ph, j * 2 + 1, none⟩ = false := fun A B => by
    have b1 := ((Below.refl w2.heap.size w2).alloc (Nat.le_refl _) A).alloc (by simp) B
    exact (b1.frozen hpl).trans fph
  go_region_held3 (fun V' => V'.cell? ⟨m, 12, none⟩ = some (.slice (some ⟨ph, 0, none⟩) N N)) (repeat (first | assumption | with_reducible refine keepD ?_ | with_reducible refine keepA ?_ | refine keepX (Ne.symm hmp) ?_)) (fail)
  clear hm1 hm2 hc1 hf1 n12 nph fph
  obtain ⟨st, hst⟩ : ∃ st, w2.heap.size = st := ⟨_, rfl⟩
  rw [hst]
  generalize hV4 : World.drew (World.alloc (World.alloc (World.setCell w2 _ _) _) _) = V4
  have H4 : Hid (LkRow V4 m N T me (.slice (some ⟨gp, 0, none⟩) 1 1) (ptr eb) (.slice (some ⟨ph, 0, none⟩) N N) (.string ⟨#[]⟩) (.int .i64 0) ∧ Row V4 gp 9 [str (poolL v0)] ∧ MRow V4 eb S mb ∧ MapE V4 mb ∧ V4.cell? ⟨ph, j * 2 + 1, none⟩ = some (.slice (some ⟨st + 1, 0, none⟩) 1 1) ∧ V4.cell? ⟨st + 1, 0, none⟩ = some (ptr st) ∧ Row V4 st 51 [num k, num k, .slice (some ⟨gl, 0, none⟩) n capl, .slice none 0 0] ∧ V.heap.size ≤ m ∧ V.heap.size ≤ mb ∧ Below V.heap.size V V4) := by
    obtain ⟨a1, a2, a3, a4, a5, a6, a7, a8, a9⟩ := HM.out
    have hne1 : gp ≠ ph := by
      rintro rfl
      have := a2.symm.trans a3
      simp at this
    have hne2 : eb ≠ ph := by
      obtain ⟨r, r1, _⟩ := a4
      rintro rfl
      have := r1.symm.trans a3
      simp at this
    have hne3 : mb ≠ ph := by
      rintro rfl
      have := a5.has.symm.trans a3
      simp at this
    have hel : eb < w2.heap.size := by obtain ⟨r, r1, _⟩ := a4; exact r1.lt
    have hsz := a9.size
    rw [← hV4]
    refine ⟨?_, ((a2.setOther _ _ (by simp; omega)).alloc _).alloc _, ?_, ?_, ?_, ?_, ?_, a6, a7, ?_⟩
    · exact ((a1.setOther _ _ (by simp; omega)).of_block (Below.heap_alloc _ _ _ (by simp [World.setCell]; have := a1.lt; omega))).of_block (Below.heap_alloc _ _ _ (by simp [World.setCell]; have := a1.lt; omega))
    · exact ((a4.other (Below.heap_setCell _ _ _ _ (by simp; omega))).other (Below.heap_alloc _ _ _ (by simp [World.setCell]; omega))).other (Below.heap_alloc _ _ _ (by simp [World.setCell]; omega))
    · exact (((a5.setOther _ _ (by simp; omega)).alloc _).alloc _).drew
    · exact keepD (keepA (keepA (World.cell?_setCell_same _ _ _ cph)))
    · exact ((Row.new _ 46 [ptr st] (st + 1) (by simp [World.setCell, hst])).cell 0).trans rfl
    · exact (Row.new _ 51 _ st (by simp [World.setCell, hst])).alloc _
    · exact (((a9.setCell (by simp; omega) _).alloc (by simp [World.setCell]; omega) _).alloc (by simp [World.setCell]; omega) _).drew
  clear hV4 HM c12 cph hml hpl hst
  go_wp2_with fail
  refine H2.out _ _ (wp_seq_k (fun K3 hK3 => ?_))
  have H3 : Hid _ := hK3
  clear hK3 H2
  have c17 := H4.out.1.cells.2.2.2.2.2.2.1
  have c18 := H4.out.1.cells.2.2.2.2.2.2.2
  go_wp2_with fail
  obtain ⟨bf, hbf⟩ : ∃ bf, V4.heap.size = bf := ⟨_, rfl⟩
  rw [hbf]
  generalize hV5 : World.alloc V4 _ = V5
  have H5 : Hid (Row V5 bf 65 [.string ⟨#[]⟩, .int .i64 0] ∧ Below V4.heap.size V4 V5) := by
    rw [← hV5]
    exact ⟨Row.new _ 65 _ _ hbf.symm, (Below.refl _ _).alloc (Nat.le_refl _) _⟩
  clear hV5 c17 c18
  refine H3.out _ _ (wp_seq_k (fun K4 hK4 => ?_))
  have H6 : Hid _ := hK4
  clear hK4 H3
  have HC : Hid (Calls Ybaz.prog 11 #[ptr m, num k] V5 fun x w' => (∃ u, x = .returned u) ∧ Left3 w0 w' m N T me k eb S mb bf (.slice (some ⟨gp, 0, none⟩) 1 1) (.slice (some ⟨ph, 0, none⟩) N N) (propR (als E X) me n (N - T) (fun i => decide (v0 = i))) ∧ Below V.heap.size V w') := by
    obtain ⟨a1, a2, a3, a4, a5, a6, a7, a8, a9, a10⟩ := H4.out
    obtain ⟨b1, b2⟩ := H5.out
    obtain ⟨q1, q2, q3, q4⟩ := HG.out
    have hel : eb < V4.heap.size := by obtain ⟨r, r1, _⟩ := a3; exact r1.lt
    have hV5 := a10.trans (b2.mono a10.size)
    have hlow : Below w0.heap.size w0 V5 := q4.trans (hV5.mono q4.size)
    have hPh : Ph V5 m N T me k ph (st + 1) st gl n capl (.slice (some ⟨gp, 0, none⟩) 1 1) (ptr eb) (.string ⟨#[]⟩) (.int .i64 0) (als E X) :=
      { row := a1.below b2 a1.lt
        c1 := by rw [← Hj.out]; exact (b2.cell (World.block_lt_of_cell? V4 _ a5)).trans a5
        cs := (b2.cell (World.block_lt_of_cell? V4 _ a6)).trans a6
        cf := (b2.cell a7.lt).trans ((a7.cell 0).trans rfl)
        cl := (b2.cell a7.lt).trans ((a7.cell 1).trans rfl)
        cg := (b2.cell a7.lt).trans ((a7.cell 2).trans rfl)
        ls := q3.below hV5 }
    have hs5 := b2.size
    have hsV := a10.size
    refine (propose_ok Fi m N T me k ph (st + 1) st gl n capl eb S mb V.heap.size (.slice (some ⟨gp, 0, none⟩) 1 1) (als E X) (fun i => decide (v0 = i)) V5 (by rw [hV5.tape]; exact q1) hN hT hk hn hPh (okl_of q2) (cs_one (by omega) (a2.below b2 a2.lt)) (a3.other (b2.block eb hel)) (a4.below3 b2 a4.lt) ⟨a8, a9, by omega⟩).mono ?_
    rintro x w' ⟨hx, es, c, pv, pk, p1, p2, p3, p4, p5, p6⟩
    have hbm : bf ≠ m := by
      have := a1.lt
      omega
    have hbb : bf ≠ mb := by
      have := a4.lt
      omega
    have hbk := p5 bf b1.lt hbm hbb
    have b1' := b1.of_block hbk
    exact ⟨hx, ⟨hlow.trans (p4.mono q4.size), (b1'.cell 0).trans rfl, (b1'.cell 1).trans rfl, es, c, pv, pk, p1, p2, p3, p6⟩, hV5.trans p4⟩
  go_wp2_with (go_at_call 11; refine HC.out.mono ?_; rintro e w6 ⟨⟨v, rfl⟩, hL3, hB6⟩)
  exact H6.out _ _ (lawHeard w0 w6 m N T me k v0 eb S mb bf g n cap _ _ _ E X hN hT hk hn (by omega) hL3 (HG.out.2.1.below hB6) HR.out)
end Propose
end Go.Proofs.YbulkcrfgGreatFmt
