import Derived.Test.YbulkcrfgFmtSmall
namespace Go.Proofs.YbulkcrfgFmt
open Go.RowKit
namespace Lanes
open Kit

theorem info67 : (Ybaf.prog.info? 67).map (fun i => (i.zero, i.size, i.bytes)) = some (some (.agg #[.int .i64 0, .int .i64 0, .slice none 0 0, .int .i64 0, .int .i64 0, .bool false, .pointer none]), 7, 72) := by kernel_rfl

/-- The pointer to the i-th lane of block g. -/
def lp (g i : Nat) : Value := .pointer (some ⟨g, i * 7, none⟩)

set_option maxHeartbeats 1000000 in
set_option maxRecDepth 20000 in
/-- (*EchoBroadcast).lane: the lane is there already. -/
theorem lane_old (M L NS each p idx : Nat) (per : Int) (rc lc : List Value) (g o : Nat) (w : World) (hR : Row w M 51 rc) (h5 : rc[5]? = some (.slice (some ⟨L, 0, none⟩) NS NS)) (h6 : rc[6]? = some (.int .i64 each))
    (hL : Row w L 56 lc) (hp : 1 ≤ p) (hi : (p - 1) * each + idx < NS) (hNS : NS ≤ 100000) (hl : lc[(p - 1) * each + idx]? = some (.pointer (some ⟨g, o, none⟩))) (he : each ≤ 9) (hp2 : p ≤ 1024) (hidx : idx < each) :
    Calls Ybaf.prog 5 #[.pointer (some ⟨M, 0, none⟩), .int .i64 p, .agg #[.int .i64 idx, .int .i64 per]] w fun e w' => e = .returned (.pointer (some ⟨g, o, none⟩)) ∧ ∃ m, w' = (w.alloc (.cells #[.int .i64 idx, .int .i64 per] 59)).drewN m := by
  have c5 : w.cell? ⟨M, 5, none⟩ = some (.slice (some ⟨L, 0, none⟩) NS NS) := by rw [hR.cell]; exact h5
  have c6 : w.cell? ⟨M, 6, none⟩ = some (.int .i64 each) := by rw [hR.cell]; exact h6
  obtain ⟨I, hI⟩ : ∃ I, (p - 1) * each + idx = I := ⟨_, rfl⟩
  have cl : w.cell? ⟨L, I, none⟩ = some (.pointer (some ⟨g, o, none⟩)) := by rw [hL.cell, ← hI]; exact hl
  have hmul : ((p : Int) - 1) * (each : Int) = (((p - 1) * each : Nat) : Int) := by rw [Int.natCast_mul]; congr 1; omega
  obtain ⟨J, hJ⟩ : ∃ J, (p - 1) * each = J := ⟨_, rfl⟩
  rw [hJ] at hmul hI
  have hJb : J + idx = I := hI
  have hIN : I < NS := by omega
  have hMw := hR.lt
  have hLw := hL.lt
  have HI : Hid _ := hI
  have hIJ : (J : Int) + (idx : Int) = (I : Int) := by omega
  clear hR hL h5 h6 hl hI hJ hi hJb
  go_enter Ybaf.func5, Ybaf.ntmps5
  go_wp2
  go_quiet (fail)
  go_wp2
  go_ret
  exact ⟨rfl, _, rfl⟩

def zl : List Value := [.int .i64 0, .int .i64 0, .slice none 0 0, .int .i64 0, .int .i64 0, .bool false, .pointer none]
/-- The i-th lane of a row of lanes is fresh. -/
def Fresh (gc : List Value) (i : Nat) : Prop := ∀ j, j < 7 → gc[i * 7 + j]? = zl[j]?

theorem made_fresh (n i : Nat) (hi : i < n) : Fresh (madeCells (Value.agg #[.int .i64 0, .int .i64 0, .slice none 0 0, .int .i64 0, .int .i64 0, .bool false, .pointer none]).cells (n * 7)).toList i := by
  intro j hj
  have h : i * 7 + j < n * 7 := by omega
  have hm : (i * 7 + j) % 7 = j := by omega
  have hm2 : j = 0 ∨ j = 1 ∨ j = 2 ∨ j = 3 ∨ j = 4 ∨ j = 5 ∨ j = 6 := by omega
  simp only [madeCells, Value.cells]
  rcases hm2 with rfl | rfl | rfl | rfl | rfl | rfl | rfl
  · have h' : i * 7 < n * 7 := by omega
    simp [h']; rfl
  all_goals (simp [h, hm]; rfl)

/-- What a call of lane that makes a lane leaves. -/
structure NewLane (M L I each p : Nat) (per : Int) (rc lc : List Value) (w w' : World) (g s n : Nat) (sp : Value) (gc : List Value) : Prop where
  sum : s + 1 + n = each
  row : Row w' M 51 (rc.set 8 sp)
  spare : (n = 0 ∧ ∃ ao cap, sp = .slice ao 0 cap) ∨ (1 ≤ n ∧ sp = .slice (some ⟨g, (s + 1) * 7, none⟩) n n)
  lanes : Row w' L 56 (lc.set I (lp g s))
  lrow : Row w' g 67 gc
  llen : gc.length = each * 7
  c0 : gc[s * 7]? = some (.int .i64 p)
  c1 : gc[s * 7 + 1]? = some (.int .i64 per)
  c2 : gc[s * 7 + 2]? = some (.slice (some ⟨g, s * 7 + 6, none⟩) 0 1)
  c3 : gc[s * 7 + 3]? = some (.int .i64 0)
  c4 : gc[s * 7 + 4]? = some (.int .i64 0)
  c5 : gc[s * 7 + 5]? = some (.bool false)
  fresh : ∀ i, s < i → i < each → Fresh gc i
  keep : ∀ k, k < w.heap.size → k ≠ M → k ≠ L → k ≠ g → w'.heap[k]? = w.heap[k]?
  keepg : ∀ o, o < s * 7 → w'.cell? ⟨g, o, none⟩ = w.cell? ⟨g, o, none⟩
  at_ : (w.heap.size ≤ g ∧ s = 0 ∧ ∃ ao cap, rc[8]? = some (.slice ao 0 cap)) ∨ (g < w.heap.size ∧ rc[8]? = some (.slice (some ⟨g, s * 7, none⟩) (n + 1) (n + 1)))
  os : w'.os = w.os
  tape : w'.tape = w.tape
  output : w'.output = w.output
  size : w.heap.size ≤ w'.heap.size

/-- The three cells that lane writes. -/
def put3 (gc : List Value) (g s p : Nat) (per : Int) : List Value := ((gc.set (s * 7) (.int .i64 p)).set (s * 7 + 1) (.int .i64 per)).set (s * 7 + 2) (.slice (some ⟨g, s * 7 + 6, none⟩) 0 1)
theorem put3_other (gc : List Value) (g s p : Nat) (per : Int) (j : Nat) (h1 : j ≠ s * 7) (h2 : j ≠ s * 7 + 1) (h3 : j ≠ s * 7 + 2) : (put3 gc g s p per)[j]? = gc[j]? := by
  unfold put3
  rw [List.getElem?_set_ne (Ne.symm h3), List.getElem?_set_ne (Ne.symm h2), List.getElem?_set_ne (Ne.symm h1)]
theorem put3_0 (gc : List Value) (g s p : Nat) (per : Int) (h : s * 7 + 7 ≤ gc.length) : (put3 gc g s p per)[s * 7]? = some (.int .i64 p) := by
  unfold put3
  rw [List.getElem?_set_ne (by omega), List.getElem?_set_ne (by omega), List.getElem?_set_self (by omega)]
theorem put3_1 (gc : List Value) (g s p : Nat) (per : Int) (h : s * 7 + 7 ≤ gc.length) : (put3 gc g s p per)[s * 7 + 1]? = some (.int .i64 per) := by
  unfold put3
  rw [List.getElem?_set_ne (by omega), List.getElem?_set_self (by simp; omega)]
theorem put3_2 (gc : List Value) (g s p : Nat) (per : Int) (h : s * 7 + 7 ≤ gc.length) : (put3 gc g s p per)[s * 7 + 2]? = some (.slice (some ⟨g, s * 7 + 6, none⟩) 0 1) := by
  unfold put3
  rw [List.getElem?_set_self (by simp; omega)]

/-- The end of such a call, without the walk. -/
theorem lane_end0 {M L I each p : Nat} {per : Int} {rc lc gc : List Value} {w wc W8 w' : World} {g s n : Nat} {sp : Value} (hsum : s + 1 + n = each)
    (hsp2 : (n = 0 ∧ ∃ ao cap, sp = .slice ao 0 cap) ∨ (1 ≤ n ∧ sp = .slice (some ⟨g, (s + 1) * 7, none⟩) n n)) (t1 : Row wc M 51 (rc.set 8 sp)) (t2 : Only M W8 wc)
    (q4 : Row W8 g 67 gc) (q5 : gc.length = each * 7) (q6 : ∀ i, s ≤ i → i < each → Fresh gc i) (q7 : ∀ k, k < w.heap.size → k ≠ M → W8.heap[k]? = w.heap[k]?)
    (q8 : (w.heap.size < g ∧ s = 0 ∧ ∃ ao cap, rc[8]? = some (.slice ao 0 cap)) ∨ (g < w.heap.size ∧ rc[8]? = some (.slice (some ⟨g, s * 7, none⟩) (n + 1) (n + 1))))
    (q9 : W8.os = w.os) (q10 : W8.tape = w.tape) (q11 : W8.output = w.output) (q12 : w.heap.size ≤ W8.heap.size) (hgM : g ≠ M) (hML : M ≠ L)
    (r1 : Row w' g 67 (put3 gc g s p per)) (r2 : Row w' L 56 (lc.set I (lp g s))) (r3 : ∀ k, k ≠ g → k ≠ L → w'.heap[k]? = wc.heap[k]?) (r4 : w'.os = wc.os) (r5 : w'.tape = wc.tape) (r6 : w'.output = wc.output) (r7 : w'.heap.size = wc.heap.size) :
    NewLane M L I each p per rc lc w w' g s n sp (put3 gc g s p per) := by
  have hfs := q6 s (Nat.le_refl _) (by omega)
  have hs7 : s * 7 + 7 ≤ gc.length := by rw [q5, ← hsum]; omega
  refine { sum := hsum, row := ?_, spare := hsp2, lanes := r2, lrow := r1, llen := by simp [put3, q5], c0 := put3_0 _ _ _ _ _ hs7, c1 := put3_1 _ _ _ _ _ hs7, c2 := put3_2 _ _ _ _ _ hs7, c3 := ?_, c4 := ?_, c5 := ?_, fresh := ?_, keep := ?_, keepg := ?_, at_ := ?_, os := ?_, tape := ?_, output := ?_, size := ?_ }
  · exact t1.of_block (r3 M (Ne.symm hgM) hML)
  · rw [put3_other _ _ _ _ _ _ (by omega) (by omega) (by omega)]; exact hfs 3 (by omega)
  · rw [put3_other _ _ _ _ _ _ (by omega) (by omega) (by omega)]; exact hfs 4 (by omega)
  · rw [put3_other _ _ _ _ _ _ (by omega) (by omega) (by omega)]; exact hfs 5 (by omega)
  · intro i h1 h2 j hj
    rw [put3_other _ _ _ _ _ _ (by omega) (by omega) (by omega)]
    exact q6 i (by omega) h2 j hj
  · intro k hk h1 h2 h3
    rw [r3 k h3 h2, t2.block k h1]
    exact q7 k hk h1
  · intro o ho
    rcases q8 with ⟨_, h, _⟩ | ⟨h, _⟩
    · omega
    · rw [r1.cell, put3_other _ _ _ _ _ _ (by omega) (by omega) (by omega), ← q4.cell]
      exact World.cell?_of_block (w := w) (q7 g h hgM)
  · rcases q8 with ⟨h1, h2, h3⟩ | ⟨h, h'⟩
    · exact .inl ⟨by omega, h2, h3⟩
    · exact .inr ⟨h, h'⟩
  · exact r4.trans (t2.os.trans q9)
  · exact r5.trans (t2.tape.trans q10)
  · exact r6.trans (t2.output.trans q11)
  · have := t2.size
    omega

/-- The four writes. -/
theorem writes4 {wc : World} {g s L I p : Nat} {per : Int} {gc lc : List Value} (hg : Row wc g 67 gc) (hL : Row wc L 56 lc) (hgL : g ≠ L) :
    ∃ w', w' = ((((wc.setCell ⟨g, s * 7, none⟩ (.int .i64 p)).setCell ⟨g, s * 7 + 1, none⟩ (.int .i64 per)).setCell ⟨g, s * 7 + 2, none⟩ (.slice (some ⟨g, s * 7 + 6, none⟩) 0 1)).setCell ⟨L, I, none⟩ (.pointer (some ⟨g, s * 7, none⟩))) ∧
      Row w' g 67 (put3 gc g s p per) ∧ Row w' L 56 (lc.set I (lp g s)) ∧ (∀ k, k ≠ g → k ≠ L → w'.heap[k]? = wc.heap[k]?) ∧ w'.os = wc.os ∧ w'.tape = wc.tape ∧ w'.output = wc.output ∧ w'.heap.size = wc.heap.size := by
  obtain ⟨w1, e1⟩ : ∃ w1, w1 = wc.setCell ⟨g, s * 7, none⟩ (.int .i64 p) := ⟨_, rfl⟩
  have o1 : Only g wc w1 := by rw [e1]; exact (Only.refl _ _).setCell _ _
  have g1 : Row w1 g 67 (gc.set (s * 7) (.int .i64 p)) := by rw [e1]; exact hg.set _ _
  obtain ⟨w2, e2⟩ : ∃ w2, w2 = w1.setCell ⟨g, s * 7 + 1, none⟩ (.int .i64 per) := ⟨_, rfl⟩
  have o2 : Only g wc w2 := by rw [e2]; exact o1.setCell _ _
  have g2 : Row w2 g 67 ((gc.set (s * 7) (.int .i64 p)).set (s * 7 + 1) (.int .i64 per)) := by rw [e2]; exact g1.set _ _
  obtain ⟨w3, e3⟩ : ∃ w3, w3 = w2.setCell ⟨g, s * 7 + 2, none⟩ (.slice (some ⟨g, s * 7 + 6, none⟩) 0 1) := ⟨_, rfl⟩
  have o3 : Only g wc w3 := by rw [e3]; exact o2.setCell _ _
  have g3 : Row w3 g 67 (put3 gc g s p per) := by rw [e3]; exact g2.set _ _
  obtain ⟨w4, e4⟩ : ∃ w4, w4 = w3.setCell ⟨L, I, none⟩ (.pointer (some ⟨g, s * 7, none⟩)) := ⟨_, rfl⟩
  have o4 : Only L w3 w4 := by rw [e4]; exact (Only.refl _ _).setCell _ _
  refine ⟨w4, by rw [e4, e3, e2, e1], g3.only o4 hgL, ?_, fun k h1 h2 => (o4.block k h2).trans (o3.block k h1), o4.os.trans o3.os, o4.tape.trans o3.tape, o4.output.trans o3.output, o4.size.trans o3.size⟩
  rw [e4]
  exact (hL.only o3 (Ne.symm hgL)).set _ _

theorem lane_end {M L I each p : Nat} {per : Int} {rc lc gc : List Value} {w wc W8 : World} {g s n : Nat} {sp : Value} (hsum : s + 1 + n = each)
    (hsp2 : (n = 0 ∧ ∃ ao cap, sp = .slice ao 0 cap) ∨ (1 ≤ n ∧ sp = .slice (some ⟨g, (s + 1) * 7, none⟩) n n)) (t1 : Row wc M 51 (rc.set 8 sp)) (t2 : Only M W8 wc)
    (q2 : Row W8 L 56 lc) (q4 : Row W8 g 67 gc) (q5 : gc.length = each * 7) (q6 : ∀ i, s ≤ i → i < each → Fresh gc i) (q7 : ∀ k, k < w.heap.size → k ≠ M → W8.heap[k]? = w.heap[k]?)
    (q8 : (w.heap.size < g ∧ s = 0 ∧ ∃ ao cap, rc[8]? = some (.slice ao 0 cap)) ∨ (g < w.heap.size ∧ rc[8]? = some (.slice (some ⟨g, s * 7, none⟩) (n + 1) (n + 1))))
    (q9 : W8.os = w.os) (q10 : W8.tape = w.tape) (q11 : W8.output = w.output) (q12 : w.heap.size ≤ W8.heap.size) (hgM : g ≠ M) (hgL : g ≠ L) (hML : M ≠ L) :
    NewLane M L I each p per rc lc w ((((wc.setCell ⟨g, s * 7, none⟩ (.int .i64 p)).setCell ⟨g, s * 7 + 1, none⟩ (.int .i64 per)).setCell ⟨g, s * 7 + 2, none⟩ (.slice (some ⟨g, s * 7 + 6, none⟩) 0 1)).setCell ⟨L, I, none⟩ (.pointer (some ⟨g, s * 7, none⟩))).drew g s n sp
      (put3 gc g s p per) := by
  obtain ⟨w', e', r1, r2, r3, r4, r5, r6, r7⟩ := writes4 (I := I) (s := s) (p := p) (per := per) (q4.only t2 hgM) (q2.only t2 (Ne.symm hML)) hgL
  rw [← e']
  exact lane_end0 (w' := w'.drew) hsum hsp2 t1 t2 q4 q5 q6 q7 q8 q9 q10 q11 q12 hgM hML r1 r2 r3 r4 r5 r6 r7

set_option maxHeartbeats 2000000 in
set_option maxRecDepth 20000 in
/-- (*EchoBroadcast).lane: a new lane. -/
theorem lane_new (M L NS each p idx : Nat) (per : Int) (rc lc : List Value) (w : World) (hR : Row w M 51 rc) (hrl : rc.length = 22) (h5 : rc[5]? = some (.slice (some ⟨L, 0, none⟩) NS NS)) (h6 : rc[6]? = some (.int .i64 each))
    (hL : Row w L 56 lc) (hML : M ≠ L) (hp : 1 ≤ p) (hi : (p - 1) * each + idx < NS) (hNS : NS ≤ 100000) (hl : lc[(p - 1) * each + idx]? = some (.pointer none)) (he : each ≤ 9) (hp2 : p ≤ 1024) (hidx : idx < each)
    (hsp : (∃ ao cap, rc[8]? = some (.slice ao 0 cap)) ∨ (∃ g s n gc, rc[8]? = some (.slice (some ⟨g, s * 7, none⟩) n n) ∧ 1 ≤ n ∧ s + n = each ∧ Row w g 67 gc ∧ gc.length = each * 7 ∧ ∀ i, s ≤ i → i < each → Fresh gc i)) :
    Calls Ybaf.prog 5 #[.pointer (some ⟨M, 0, none⟩), .int .i64 p, .agg #[.int .i64 idx, .int .i64 per]] w fun e w' => ∃ g s n sp gc, e = .returned (lp g s) ∧ NewLane M L ((p - 1) * each + idx) each p per rc lc w w' g s n sp gc := by
  obtain ⟨i67, hi67, hz67, hs67, hb67⟩ := info_parts info67
  have c5 : w.cell? ⟨M, 5, none⟩ = some (.slice (some ⟨L, 0, none⟩) NS NS) := by rw [hR.cell]; exact h5
  have c6 : w.cell? ⟨M, 6, none⟩ = some (.int .i64 each) := by rw [hR.cell]; exact h6
  obtain ⟨I, hI⟩ : ∃ I, (p - 1) * each + idx = I := ⟨_, rfl⟩
  have cl : w.cell? ⟨L, I, none⟩ = some (.pointer none) := by rw [hL.cell, ← hI]; exact hl
  have hmul : ((p : Int) - 1) * (each : Int) = (((p - 1) * each : Nat) : Int) := by rw [Int.natCast_mul]; congr 1; omega
  obtain ⟨J, hJ⟩ : ∃ J, (p - 1) * each = J := ⟨_, rfl⟩
  rw [hJ] at hmul hI
  have hIN : I < NS := by omega
  have hMw := hR.lt
  have hLw := hL.lt
  have HI : Hid _ := hI
  have hIJ : (J : Int) + (idx : Int) = (I : Int) := by omega
  have HA : Hid (_ ∧ _ ∧ _ ∧ _) := ⟨hR, hL, h5, h6⟩
  have Hsp : Hid (_ ∨ _) := hsp
  have hc8 : ∃ ao n cap, rc[8]? = some (.slice ao n cap) := by
    rcases hsp with ⟨ao, cap, h⟩ | ⟨g, s, n, gc, h, _⟩
    · exact ⟨_, _, _, h⟩
    · exact ⟨_, _, _, h⟩
  obtain ⟨ao8, n8, cap8, h8⟩ := hc8
  have c8 : w.cell? ⟨M, 8, none⟩ = some (.slice ao8 n8 cap8) := by rw [hR.cell]; exact h8
  have f8 := hR.frozen 8
  have H8 : Hid _ := h8
  have Hl : Hid (lc[I]? = some (.pointer none)) := by rw [← hI, ← hJ]; exact hl
  have HIe : Hid ((p - 1) * each + idx = I) := by rw [hJ]; exact hI
  clear hR hL h5 h6 hl hI hJ hi hsp h8
  go_enter Ybaf.func5, Ybaf.ntmps5
  go_wp2
  go_quiet (fail)
  go_upto_if 35 with fail
  generalize hW1 : World.drewN (World.alloc w _) nq = W1
  have HW1 : Hid (Row W1 w.heap.size 59 [.int .i64 idx, .int .i64 per] ∧ (∀ k, k < w.heap.size → W1.heap[k]? = w.heap[k]?) ∧ W1.heap.size = w.heap.size + 1 ∧ W1.os = w.os ∧ W1.tape = w.tape ∧ W1.output = w.output) := by
    rw [← hW1]
    exact ⟨(Row.new _ 59 _ _ rfl).drewN _, fun k hk => Below.heap_alloc _ _ _ hk, by simp, rfl, rfl, rfl⟩
  have e8 : W1.cell? ⟨M, 8, none⟩ = some (.slice ao8 n8 cap8) := (World.cell?_of_block (w := w) (HW1.out.2.1 M hMw)).trans c8
  have e6 : W1.cell? ⟨M, 6, none⟩ = some (.int .i64 each) := (World.cell?_of_block (w := w) (HW1.out.2.1 M hMw)).trans c6
  have g8 : W1.frozen? ⟨M, 8, none⟩ = false := (World.frozen?_of_block (w := w) (HW1.out.2.1 M hMw)).trans f8
  clear hW1 c8 c6 c5 cl f8
  go_cut [] (fun wx => ∃ g s n gc, s + 1 + n = each ∧ Row wx M 51 (rc.set 8 (.slice (some ⟨g, s * 7, none⟩) (n + 1) (n + 1))) ∧ Row wx L 56 lc ∧ Row wx w.heap.size 59 [.int .i64 idx, .int .i64 per] ∧ Row wx g 67 gc ∧ gc.length = each * 7 ∧ (∀ i, s ≤ i → i < each → Fresh gc i) ∧
      (∀ k, k < w.heap.size → k ≠ M → wx.heap[k]? = w.heap[k]?) ∧ ((w.heap.size < g ∧ s = 0 ∧ ∃ ao cap, rc[8]? = some (.slice ao 0 cap)) ∨ (g < w.heap.size ∧ rc[8]? = some (.slice (some ⟨g, s * 7, none⟩) (n + 1) (n + 1)))) ∧
      wx.os = w.os ∧ wx.tape = w.tape ∧ wx.output = w.output ∧ w.heap.size < wx.heap.size)
  case first =>
    by_cases hn0 : n8 = 0
    · have hz : ((n8 : Int) == 0) = true := by simp [hn0]
      have Hn0 : Hid _ := hn0
      clear hn0
      go_wp2_with (at_make; refine wpList_make_new _ rfl _ _ 36 rfl 67 i67 _ 7 Ybaf.underlying36 hi67 hz67 hs67 _ _ _ _ each each rfl rfl rfl rfl (Nat.le_refl _) (by rw [hb67]; omega) (by unfold maxLen; omega) ?_)
      intro w2 hsz2 hrow2 hbel2
      have d8 : w2.cell? ⟨M, 8, none⟩ = some (.slice ao8 n8 cap8) := (hbel2.cell (by have := HW1.out.2.2.1; simp; omega)).trans e8
      have k8 : w2.frozen? ⟨M, 8, none⟩ = false := (hbel2.frozen (by have := HW1.out.2.2.1; simp; omega)).trans g8
      have H2 : Hid (_ ∧ _ ∧ _) := ⟨hsz2, hrow2, hbel2⟩
      clear hsz2 hrow2 hbel2 e8 e6 g8
      go_wp2
      go_meet
      obtain ⟨hsz2, hrow2, hbel2⟩ := H2.out
      obtain ⟨a1, a2, a3, a4, a5, a6⟩ := HW1.out
      obtain ⟨hR, hL, _, _⟩ := HA.out
      obtain ⟨n, rfl⟩ : ∃ n, each = n + 1 := ⟨each - 1, by omega⟩
      have hne : ∀ k, k < w.heap.size → w2.heap[k]? = w.heap[k]? := fun k hk => (hbel2.block k (by omega)).trans (a2 k hk)
      refine ⟨W1.heap.size, 0, n, (madeCells (Value.agg #[.int .i64 0, .int .i64 0, .slice none 0 0, .int .i64 0, .int .i64 0, .bool false, .pointer none]).cells ((n + 1) * 7)).toList, by omega, ?_, ?_, ?_, ?_, by simp [size_madeCells], fun i _ hi => made_fresh _ _ hi, ?_, .inl ⟨by omega, rfl, ?_⟩, ?_, ?_, ?_, ?_⟩
      · have := (hR.of_block (hne M hMw)).set 8 (.slice (some ⟨W1.heap.size, 0, none⟩) (n + 1) (n + 1))
        simpa using this
      · exact (hL.of_block (hne L hLw)).setOther _ _ (by simp; omega)
      · exact (a1.of_block (hbel2.block _ (by omega))).setOther _ _ (by simp; omega)
      · exact Row.setOther hrow2 _ _ (by simp; omega)
      · intro k hk hkM
        rw [heap_setCell_other _ _ _ _ hkM]
        exact hne k hk
      · rcases Hsp.out with h | ⟨g, s, n', gc, h, h1, _⟩
        · exact h
        · have := H8.out
          rw [h] at this
          injection this with this
          injection this with _ this
          have := Hn0.out
          omega
      · exact hbel2.os.trans a4
      · exact hbel2.tape.trans a5
      · exact hbel2.output.trans a6
      · simp [World.setCell]; omega
    · have hz : ((n8 : Int) == 0) = false := by simp [hn0]
      have Hn0 : Hid _ := hn0
      clear hn0
      go_wp2
      go_meet
      obtain ⟨a1, a2, a3, a4, a5, a6⟩ := HW1.out
      obtain ⟨hR, hL, _, _⟩ := HA.out
      rcases Hsp.out with ⟨ao, cap, h⟩ | ⟨g, s, n', gc, h, h1, h2, h3, h4, h5⟩
      · exfalso
        have := H8.out
        rw [h] at this
        injection this with this
        injection this with _ this
        exact Hn0.out this.symm
      · obtain ⟨n, rfl⟩ : ∃ n, n' = n + 1 := ⟨n' - 1, by omega⟩
        have hset : rc.set 8 (.slice (some ⟨g, s * 7, none⟩) (n + 1) (n + 1)) = rc := by
          apply List.ext_getElem?
          intro j
          by_cases hj : j = 8
          · subst hj; rw [List.getElem?_set_self (by omega), h]
          · rw [List.getElem?_set_ne (by omega)]
        refine ⟨g, s, n, gc, by omega, by rw [hset]; exact hR.of_block (a2 M hMw), hL.of_block (a2 L hLw), a1, h3.of_block (a2 g h3.lt), h4, h5, fun k hk _ => a2 k hk, .inr ⟨h3.lt, h⟩, a4, a5, a6, by omega⟩
  case rest =>
    obtain ⟨g, s, n, gc, hsum, q1, q2, q3, q4, q5, q6, q7, q8, q9, q10, q11, q12⟩ := hcut
    have hgM : g ≠ M := fun e => by
      subst e
      have h1 : wc.heap[g]? = _ := q1
      rw [q4] at h1
      cases h1
    have hgL : g ≠ L := fun e => by
      subst e
      have h1 : wc.heap[g]? = _ := q2
      rw [q4] at h1
      cases h1
    have hgB : g ≠ w.heap.size := by omega
    have k8 : wc.cell? ⟨M, 8, none⟩ = some (.slice (some ⟨g, s * 7, none⟩) (n + 1) (n + 1)) := by rw [q1.cell, List.getElem?_set_self (by omega)]
    have kf8 := q1.frozen 8
    have kL : wc.cell? ⟨L, I, none⟩ = some (.pointer none) := by rw [q2.cell]; exact Hl.out
    have kfL := q2.frozen I
    have kL5 : wc.cell? ⟨M, 5, none⟩ = some (.slice (some ⟨L, 0, none⟩) NS NS) := by rw [q1.cell, List.getElem?_set_ne (by omega)]; exact HA.out.2.2.1
    have kb : wc.cell? ⟨w.heap.size, 1, none⟩ = some (.int .i64 per) := by rw [q3.cell]; rfl
    have hfr := q6 s (Nat.le_refl _) (by omega)
    have z0 : wc.cell? ⟨g, s * 7, none⟩ = some (.int .i64 0) := by rw [q4.cell]; exact hfr 0 (by omega)
    have z1 : wc.cell? ⟨g, s * 7 + 1, none⟩ = some (.int .i64 0) := by rw [q4.cell]; exact hfr 1 (by omega)
    have z2 : wc.cell? ⟨g, s * 7 + 2, none⟩ = some (.slice none 0 0) := by rw [q4.cell]; exact hfr 2 (by omega)
    have z6 : wc.cell? ⟨g, s * 7 + 6, none⟩ = some (.pointer none) := by rw [q4.cell]; exact hfr 6 (by omega)
    have y0 := q4.frozen (s * 7)
    have y1 := q4.frozen (s * 7 + 1)
    have y2 := q4.frozen (s * 7 + 2)
    have HQ : Hid (_ ∧ _ ∧ _ ∧ _ ∧ _ ∧ _) := ⟨q1, q2, q3, q4, q6, q7⟩
    have HQ8 : Hid (_ ∨ _) := q8
    clear q1 q2 q3 q4 q6 q7 q8 hfr
    generalize wc = W8 at *
    go_upto_region 8 with fail
    go_cut [] (fun wx => ∃ sp, ((n = 0 ∧ ∃ ao cap, sp = .slice ao 0 cap) ∨ (1 ≤ n ∧ sp = .slice (some ⟨g, (s + 1) * 7, none⟩) n n)) ∧ Row wx M 51 (rc.set 8 sp) ∧ Only M W8 wx)
    case first =>
      clear kL kfL kb z0 z1 z2 z6 y0 y1 y2
      by_cases hn : n = 0
      · subst hn
        go_wp2
        go_meet
        refine ⟨.slice (some ⟨g, s * 7, none⟩) 0 0, .inl ⟨by trivial, some ⟨g, s * 7, none⟩, 0, rfl⟩, ?_, (Only.refl _ _).setCell 8 _⟩
        have := HQ.out.1.set 8 (.slice (some ⟨g, s * 7, none⟩) 0 0)
        rw [List.set_set] at this
        simpa using this
      · have hn1 : ((n : Int) + 1 == 1) = false := by simp; omega
        have hn2 : ¬ (n + 1 = 1) := by omega
        go_wp2
        go_meet
        refine ⟨.slice (some ⟨g, (s + 1) * 7, none⟩) n n, .inr ⟨by omega, rfl⟩, ?_, (Only.refl _ _).setCell 8 _⟩
        have := HQ.out.1.set 8 (.slice (some ⟨g, (s + 1) * 7, none⟩) n n)
        rw [List.set_set, show (s + 1) * 7 = s * 7 + 7 by omega] at this
        rw [show (s + 1) * 7 = s * 7 + 7 by omega]
        exact this
    case rest =>
      obtain ⟨sp, hsp2, t1, t2⟩ := hcut
      have l5 : wc.cell? ⟨M, 5, none⟩ = some (.slice (some ⟨L, 0, none⟩) NS NS) := by rw [t1.cell, List.getElem?_set_ne (by omega)]; exact HA.out.2.2.1
      have lL := (t2.cell L I (by omega)).trans kL
      have lfL := (t2.frozen L I (by omega)).trans kfL
      have lb := (t2.cell w.heap.size 1 (by omega)).trans kb
      have x0 := (t2.cell g (s * 7) hgM).trans z0
      have x1 := (t2.cell g (s * 7 + 1) hgM).trans z1
      have x2 := (t2.cell g (s * 7 + 2) hgM).trans z2
      have x6 := (t2.cell g (s * 7 + 6) hgM).trans z6
      have u0 := (t2.frozen g (s * 7) hgM).trans y0
      have u1 := (t2.frozen g (s * 7 + 1) hgM).trans y1
      have u2 := (t2.frozen g (s * 7 + 2) hgM).trans y2
      have HZ : Hid (_ ∧ _ ∧ _) := ⟨hsp2, t1, t2⟩
      clear kL kfL kb z0 z1 z2 z6 y0 y1 y2 kL5 k8 kf8 hsp2 t1 t2
      go_wp2_with fail
      go_region
      go_wp2
      go_ret
      obtain ⟨hsp2, t1, t2⟩ := HZ.out
      obtain ⟨q1, q2, q3, q4, q6, q7⟩ := HQ.out
      rw [HIe.out]
      exact ⟨g, s, n, sp, _, rfl, lane_end (W8 := W8) hsum hsp2 t1 t2 q2 q4 q5 q6 q7 HQ8.out q9 q10 q11 (by omega) hgM hgL hML⟩
end Lanes
end Go.Proofs.YbulkcrfgFmt
