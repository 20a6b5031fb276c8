import Derived.Test.YbulkcrfgFmtTab
import Derived.WalkSmall
namespace Go.Proofs.YbulkcrfgFmt
open Go.RowKit
namespace Lanes
open Kit

theorem info61 : (Ybaf.prog.info? 61).map (fun i => (i.zero, i.size, i.bytes)) = some (some (.agg #[.int .i64 0, .int .i64 0, .int .i64 0, .pointer none]), 4, 32) := by kernel_rfl

/-- The periods, k of them laid. -/
def per (f : Nat → Nat) (c k : Nat) : List Value := (List.range c).map fun i => .int .i64 ((if i < k then f i else 0 : Nat) : Int)
theorem per_set (f : Nat → Nat) (c k : Nat) (hk : k < c) : (per f c k).set k (.int .i64 (f k)) = per f c (k + 1) := by
  apply List.ext_getElem?
  intro j
  by_cases hj : j = k
  · subst hj
    rw [List.getElem?_set_self (by simp [per]; omega)]
    simp [per, hk]
  · rw [List.getElem?_set_ne (by omega)]
    simp only [per, List.getElem?_map]
    by_cases h : j < c
    · simp [h, show (j < k + 1) = (j < k) by simp; omega]
    · simp [List.getElem?_eq_none (l := List.range c) (i := j) (by simp; omega)]
theorem per_full (f : Nat → Nat) (c : Nat) : per f c c = (List.range c).map fun i => .int .i64 (f i) := by
  unfold per
  apply List.map_congr_left
  intro i hi
  simp [List.mem_range.1 hi]
theorem per_zero (f : Nat → Nat) (c : Nat) : per f c 0 = List.replicate c (.int .i64 0) := by
  unfold per
  simp [List.map_const']

theorem own_cell {w : World} {base g n cap : Nat} {e : TypeId} {size : Nat} {xs : List Value} (h : w.ownsRow base e size (.slice (some ⟨g, 0, none⟩) n cap) n xs) {j : Nat} {u : Value} (hu : xs[j]? = some u) : w.cell? ⟨g, j, none⟩ = some u := by
  have := h.cells rfl j u hu
  by_cases hj : j = 0
  · subst hj; simpa [Addr.add] using this
  · simpa [Addr.add, hj] using this
/-- lane leaves every other row as it was. -/
theorem Tab.lane_keep {B M L N each p idx : Nat} {per : Int} {T : List Sn} {rc lc : List Value} {w0 w w' : World} {g s n : Nat} {sp : Value} {gc : List Value} (h : Tab B M L N each T rc lc w0 w)
    (nl : NewLane M L ((p - 1) * each + idx) each p per rc lc w w' g s n sp gc) {k : Nat} {t : TypeId} {cs : Array Value} (hr : w.heap[k]? = some (.cells cs t (0, 0))) (h1 : t ≠ 51) (h2 : t ≠ 56) (h3 : t ≠ 67) : w'.heap[k]? = w.heap[k]? := by
  have hk : k < w.heap.size := (Array.getElem?_eq_some_iff.1 hr).1
  have ne : ∀ (j : Nat) (u : TypeId) (ds : List Value), Row w j u ds → t ≠ u → k ≠ j := fun j u ds hj hu e => by
    subst e
    unfold Row at hj
    rw [hr] at hj
    cases hj
    exact hu rfl
  refine nl.keep k hk (ne _ _ _ h.row h1) (ne _ _ _ h.lanes h2) ?_
  rcases nl.at_ with ⟨a1, _, _⟩ | ⟨a1, a2⟩
  · omega
  · rcases h.spare with ⟨ao, cap, a3⟩ | ⟨g', s', n', gc', a3, _, _, a4, _⟩
    · rw [a2] at a3
      injection a3 with a3
      injection a3 with _ a3
      omega
    · rw [a2] at a3
      injection a3 with a3
      injection a3 with a3
      injection a3 with a3
      injection a3 with a3 _
      subst a3
      exact ne _ _ _ a4 h3
/-- The spare lanes behind a new lane. -/
theorem NewLane.left {M L I each p : Nat} {per : Int} {rc lc : List Value} {w w' : World} {g s n : Nat} {sp : Value} {gc : List Value} (nl : NewLane M L I each p per rc lc w w' g s n sp gc) {ao : Option Addr} {k cap : Nat} (h : rc[8]? = some (.slice ao k cap)) :
    (∃ ao' cap', sp = .slice ao' n cap') ∧ (k = 0 → n + 1 = each) ∧ (k ≠ 0 → n + 1 = k) := by
  refine ⟨?_, ?_⟩
  · rcases nl.spare with ⟨rfl, ao', cap', h1⟩ | ⟨_, h1⟩
    · exact ⟨_, _, h1⟩
    · exact ⟨_, _, h1⟩
  · have hs := nl.sum
    rcases nl.at_ with ⟨_, h1, ao', cap', h2⟩ | ⟨_, h2⟩
    · rw [h] at h2
      injection h2 with h2
      injection h2 with _ h2
      omega
    · rw [h] at h2
      injection h2 with h2
      injection h2 with _ h2
      omega
theorem count_step {lc : List Value} {y : Nat} {v : Value} (h : lc[y]? = some v) : (lc.take (y + 1)).countP isP = (lc.take y).countP isP + (if isP v then 1 else 0) := by
  rw [List.take_add_one, h]
  simp [List.countP_append, List.countP_cons]
theorem below_drewN {B : Nat} {w w' : World} (h : Below B w w') (n : Nat) : Below B w (w'.drewN n) := ⟨h.os, h.tape, h.output, h.size, h.block⟩

set_option maxHeartbeats 10000000 in
set_option maxRecDepth 20000 in
theorem walk_main (n cls : Nat) (m : Nat → Nat) (ao : Option Addr) (len cap : Nat) (P Ix : Nat → Nat) (D : Nat → Int) (w : World) (hn : n < 65536) (hc : cls < 256) (hm : ∀ i, m i < 256) (hlen : len ≤ 1024) (hP : ∀ i, P i < 65536) (hIx : ∀ i, Ix i < 256)
    (hops : 1 ≤ len → ∃ b off, ao = some ⟨b, off, none⟩ ∧ b < w.heap.size ∧ ∀ i, i < len → w.cell? ⟨b, off + i * 3, none⟩ = some (.int .u16 (P i)) ∧ w.cell? ⟨b, off + i * 3 + 1, none⟩ = some (.int .u8 (Ix i)) ∧ w.cell? ⟨b, off + i * 3 + 2, none⟩ = some (.int .i64 (D i))) :
    Calls Ybaf.prog 3 #[.int .u16 n, .int .u8 cls, .agg #[.int .u8 (m 0), .int .u8 (m 1), .int .u8 (m 2)], .slice ao len cap] w fun e w' => e = .returned (.bool true) ∧ Below w.heap.size w w' := by
  obtain ⟨i3, hi3, hz3, hs3, hb3⟩ := info_parts info3
  obtain ⟨i61, hi61, hz61, hs61, hb61⟩ := info_parts info61
  obtain ⟨i67, hi67, hz67, hs67, hb67⟩ := info_parts info67
  obtain ⟨N, hN⟩ : ∃ N, 1 + n % 1024 = N := ⟨_, rfl⟩
  obtain ⟨c, hcl⟩ : ∃ c, 1 + cls % 3 = c := ⟨_, rfl⟩
  have hN1 : 1 ≤ N ∧ N ≤ 1024 := by omega
  have hc1 : 1 ≤ c ∧ c ≤ 3 := by omega
  have hNI : (1 : Int) + (n : Int) % 1024 = (N : Int) := by omega
  have hcI : (1 : Int) + (cls : Int) % 3 = (c : Int) := by omega
  have Hm : Hid _ := hm
  have HP : Hid (_ ∧ _) := ⟨hP, hIx⟩
  have Hops : Hid (1 ≤ len → _) := hops
  have dl : decide ((1024 : Int) < (len : Int)) = false := by simp; omega
  clear hm hP hIx hops hN hcl
  go_enter Ybaf.func3, Ybaf.ntmps3
  go_wp2_with (at_make; refine wpList_make_new _ rfl _ _ 25 rfl 3 i3 _ 1 Ybaf.underlying25 hi3 hz3 hs3 _ _ _ _ c c rfl rfl (by omega) (by omega) (Nat.le_refl _) (by rw [hb3]; omega) (by unfold maxLen; omega) ?_)
  intro w1 hsz1 hrow1 hbel1
  obtain ⟨X, hX⟩ : ∃ X, w.heap.size = X := ⟨_, rfl⟩
  have HS : Hid (Row w1 X 23 [.int .u8 (m 0), .int .u8 (m 1), .int .u8 (m 2)] ∧ Row w1 (X + 1) 3 (per (fun i => c * (1 + m i % 3)) c 0) ∧ Below X w w1 ∧ X + 1 < w1.heap.size) := by
    have e : (w.alloc (.cells #[.int .u8 (m 0), .int .u8 (m 1), .int .u8 (m 2)] 23)).heap.size = X + 1 := by rw [← hX]; simp
    refine ⟨(Row.new w 23 _ _ hX.symm).below hbel1 (by rw [← hX]; simp), ?_, ?_, ?_⟩
    · rw [per_zero]
      have := hrow1
      rw [toList_madeCells_one] at this
      simp only [hX] at this
      exact this
    · exact ((Below.refl _ _).alloc (by omega) _).trans (hbel1.mono (by omega))
    · rw [hsz1]; omega
  have hXe : (w.alloc (.cells #[.int .u8 (m 0), .int .u8 (m 1), .int .u8 (m 2)] 23)).heap.size = X + 1 := by rw [← hX]; simp
  rw [hX]
  clear hsz1 hrow1 hbel1
  go_wp2
  have hXw : w.heap.size ≤ X := by omega
  go_loopw [12, 13] (fun want i wr => ∃ k : Nat, k ≤ c ∧ i = .int .i64 k ∧ want = .int .i64 (((List.range k).map fun i => 1 + m i % 3).sum : Nat) ∧ Row wr X 23 [.int .u8 (m 0), .int .u8 (m 1), .int .u8 (m 2)] ∧ Row wr (X + 1) 3 (per (fun i => c * (1 + m i % 3)) c k) ∧ Below X w wr ∧ X + 1 < wr.heap.size) (fun _ i _ => c - (intOf i).toNat)
  case atStart =>
    obtain ⟨a1, a2, a3, a4⟩ := HS.out
    exact ⟨0, Nat.zero_le _, rfl, rfl, a1, a2, a3, a4⟩
  case round =>
    clear HS
    obtain ⟨k, hk, rfl, rfl, q1, q2, q3, q4⟩ := hrel
    obtain ⟨S, hS⟩ : ∃ S, ((List.range k).map fun i => 1 + m i % 3).sum = S := ⟨_, rfl⟩
    have hS9 : S ≤ 3 * k := by rw [← hS]; exact sum_le _ k (fun i => by omega)
    rw [hS]
    have HSS : Hid _ := hS
    have HX : Hid (_ ∧ _ ∧ _) := ⟨q1, q2, q3⟩
    clear hS
    by_cases hlt : k < c
    · have hltI : (k : Int) < (c : Int) := by omega
      have cm : wr.cell? ⟨X, k, none⟩ = some (.int .u8 (m k)) := by
        rw [q1.cell]
        rcases (by omega : k = 0 ∨ k = 1 ∨ k = 2) with rfl | rfl | rfl <;> rfl
      have cp : wr.cell? ⟨X + 1, k, none⟩ = some (.int .i64 ((0 : Nat) : Int)) := by
        rw [q2.cell]; simp [per, hlt]
      have fp := q2.frozen k
      have hmk := Hm.out k
      obtain ⟨q, hq⟩ : ∃ q, 1 + m k % 3 = q := ⟨_, rfl⟩
      have hqI : (1 : Int) + (m k : Int) % 3 = (q : Int) := by omega
      have hq3 : 1 ≤ q ∧ q ≤ 3 := by omega
      obtain ⟨F, hF⟩ : ∃ F, c * q = F := ⟨_, rfl⟩
      have hFI : (c : Int) * (q : Int) = (F : Int) := by rw [← hF, Int.natCast_mul]
      have hF9 : F ≤ 9 := by rw [← hF]; exact Nat.mul_le_mul hc1.2 hq3.2
      have hdt : (F : Int).tdiv (c : Int) = (q : Int) := by
        rw [← hFI, Int.mul_tdiv_cancel_left _ (by omega)]
      have hdv : (F : Int) / (c : Int) = (q : Int) := by
        rw [← hFI, Int.mul_ediv_cancel_left _ (by omega)]
      have hzc : ((c : Int) == 0) = false := by simp; omega
      have hcz : ¬ ((c : Int) = 0) := by omega
      have HF : Hid (_ ∧ _) := ⟨hq, hF⟩
      have hk3 : (k : Int) < 3 := by omega
      clear q1 q2 q3 hq hF
      go_wp2
      go_roundw
      case rel =>
        obtain ⟨a1, a2, a3⟩ := HX.out
        refine ⟨k + 1, by omega, by go_num, ?_, a1.setOther _ _ (by simp), ?_, a3.setCell (by simp) _, by simp [World.setCell]; omega⟩
        · rw [sum_succ, HSS.out, HF.out.1, Int.natCast_add]
        · rw [← per_set _ _ _ hlt]
          have := a2.set k (.int .i64 F)
          simp only [HF.out.1, HF.out.2]
          exact this
      case measure => simp [intOf]; omega
    · obtain rfl : k = c := by omega
      have Hq2 : Hid (Row wr (X + 1) 3 ((List.range k).map fun i => .int .i64 ((k * (1 + m i % 3) : Nat) : Int))) := by rw [← per_full]; exact q2
      clear q1 q2 q3 hlt hk
      go_wp2_with fail
      refine (newEcho N (X + 1) k (fun i => k * (1 + m i % 3)) (fun i => 1 + m i % 3) wr hN1.1 hN1.2 hc1.1 hc1.2 (fun i => by omega) (fun i => rfl) Hq2.out).mono ?_
      rintro e w2 ⟨M, L, each, rc, rfl, he, r1, r2, r3, r4, r5, r6, r7, r8, r9, r10⟩
      obtain rfl : each = S := by rw [he]; exact HSS.out
      have c5 : w2.cell? ⟨M, 5, none⟩ = some (.slice (some ⟨L, 0, none⟩) (N * each) (N * each)) := by rw [r1.cell]; exact r3
      have c6 : w2.cell? ⟨M, 6, none⟩ = some (.int .i64 each) := by rw [r1.cell]; exact r4
      have he9 : each ≤ 9 := by omega
      have he1 : 1 ≤ each := by
        have h := HSS.out
        obtain ⟨c', rfl⟩ : ∃ c', k = c' + 1 := ⟨k - 1, by omega⟩
        rw [sum_succ] at h
        omega
      have hNS0 : N * each ≤ 1024 * 9 := Nat.mul_le_mul hN1.2 he9
      obtain ⟨NS, hNSe⟩ : ∃ NS, N * each = NS := ⟨_, rfl⟩
      have hNSI : (N : Int) * (each : Int) = (NS : Int) := by rw [← hNSe, Int.natCast_mul]
      have HNS : Hid _ := hNSe
      have HT : Hid (Tab X M L N each [] rc (List.replicate (N * each) (.pointer none)) w w2) :=
        { row := r1, rlen := r2, r5 := r3, r6 := r4, bM := by omega, bL := by omega, ML := r9, lanes := r6, llen := by simp,
          count := by simp [List.countP_replicate, isP], at1 := by simp, at2 := fun i hi => .inl (by simp [hi]), cells := by simp, spare := .inl ⟨_, _, r5⟩, below := HX.out.2.2.trans (r10.mono (by omega)) }
      rw [hNSe] at c5 hNS0
      have hd1 : ((each : Int) != (each : Int)) = false := by simp
      have hd2 : ((NS : Int) != (NS : Int)) = false := by simp
      clear r1 r2 r3 r4 r5 r6 r7 r8 r9 r10 he hNSe HX
      unfold ptr
      go_wp2_with (at_make; refine wpList_make_new _ rfl _ _ 52 rfl 61 i61 _ 4 Ybaf.underlying52 hi61 hz61 hs61 _ _ _ _ 0 len rfl rfl rfl rfl (Nat.zero_le _) (by rw [hb61]; omega) (by unfold maxLen; omega) ?_)
      intro w3 hsz3 hrow3 hbel3
      obtain ⟨SB, hSB⟩ : ∃ SB, w2.heap.size = SB := ⟨_, rfl⟩
      have hMSB : M < SB := by have := HT.out.row.lt; omega
      have hXM : X ≤ M := HT.out.bM
      have HO : Hid (w3.ownsRow X 61 4 (.slice (some ⟨SB, 0, none⟩) ([] : List Sn).length len) ([] : List Sn).length []) := by
        obtain ⟨cur, hcur, hcl⟩ : ∃ cur : Array Value, w3.heap[SB]? = some (.cells cur 61 (0, 0)) ∧ cur.size = len * 4 := by
          rw [hSB] at hrow3
          exact ⟨_, hrow3, by simp [size_madeCells]⟩
        exact ⟨rfl, .inr ⟨SB, len, cur, rfl, by omega, hcur, Nat.zero_le _, by unfold maxLen; omega, hcl, by simp⟩⟩
      have HT3 : Hid (Tab X M L N each [] rc (List.replicate (N * each) (.pointer none)) w w3) := HT.out.keep hbel3
      rw [hSB]
      clear hsz3 hrow3 hbel3 HT c5 c6 hSB
      go_wp2
      go_loopw [17, 18] (fun sn kv wr => ∃ (k : Nat) (S : List Sn) (xs rc lc : List Value), k ≤ len ∧ kv = .int .i64 k ∧ sn = .slice (some ⟨SB, 0, none⟩) S.length len ∧ S.length ≤ k ∧ wr.ownsRow X 61 4 (.slice (some ⟨SB, 0, none⟩) S.length len) S.length xs ∧ Enc xs S ∧ Tab X M L N each S rc lc w wr) (fun _ i _ => len - (intOf i).toNat)
      case atStart => exact ⟨0, [], [], rc, _, Nat.zero_le _, rfl, rfl, Nat.le_refl _, HO.out, fun j t h => by simp at h, HT3.out⟩
      case round =>
        clear HO HT3
        obtain ⟨i, S, xs, rc, lc, hi, rfl, rfl, hSi, ho, henc, ht⟩ := hrel
        obtain ⟨z, hz⟩ : ∃ z, S.length = z := ⟨_, rfl⟩
        have HI : Hid (_ ∧ _ ∧ _) := ⟨ho, henc, ht⟩
        have c5 : wr.cell? ⟨M, 5, none⟩ = some (.slice (some ⟨L, 0, none⟩) NS NS) := by rw [ht.row.cell, ht.r5, HNS.out]
        obtain ⟨ao8, n8, cap8, h8⟩ := ht.sp
        have c8 : wr.cell? ⟨M, 8, none⟩ = some (.slice ao8 n8 cap8) := by rw [ht.row.cell]; exact h8
        have Hz : Hid _ := hz
        have H8 : Hid _ := h8
        have hMwr := ht.row.lt
        rw [hz] at hSi ⊢
        clear ho henc hz h8
        by_cases hlt : i < len
        · have hltI : (i : Int) < (len : Int) := by omega
          obtain ⟨b, off, rfl, hbw, hcs⟩ := Hops.out (by omega)
          obtain ⟨o0, o1, o2⟩ := hcs i hlt
          have o0 := (ht.below.cell (by simp; omega)).trans o0
          have o1 := (ht.below.cell (by simp; omega)).trans o1
          have o2 := (ht.below.cell (by simp; omega)).trans o2
          have hPi := HP.out.1 i
          have hXi := HP.out.2 i
          have hzN : ((N : Int) == 0) = false := by simp; omega
          have hze : ((each : Int) == 0) = false := by simp; omega
          obtain ⟨p, hp⟩ : ∃ p, 1 + P i % N = p := ⟨_, rfl⟩
          have hpm : P i % N < N := Nat.mod_lt _ (by omega)
          have hpI : (1 : Int) + (P i : Int) % (N : Int) = (p : Int) := by rw [← hp, Int.natCast_add, Int.natCast_emod]; rfl
          obtain ⟨x, hx⟩ : ∃ x, Ix i % each = x := ⟨_, rfl⟩
          have hxm : Ix i % each < each := Nat.mod_lt _ (by omega)
          have hxI : (Ix i : Int) % (each : Int) = (x : Int) := by rw [← hx, Int.natCast_emod]
          have hp1 : 1 ≤ p ∧ p ≤ N := by omega
          have hx1 : x < each := by omega
          have hpm0 : 0 ≤ (P i : Int) % (N : Int) ∧ (P i : Int) % (N : Int) < 1024 := by omega
          clear ht hcs hp hpm hx hxm
          go_wp2_with fail
          obtain ⟨Z, hZ⟩ : ∃ Z, wr.heap.size = Z := ⟨_, rfl⟩
          rw [hZ]
          generalize hW : World.alloc wr _ = W
          have HW : Hid (W.ownsRow X 61 4 (.slice (some ⟨SB, 0, none⟩) S.length len) S.length xs ∧ Enc xs S ∧ Tab X M L N each S rc lc w W ∧ Row W Z 54 [.int .u16 (P i), .int .u8 (Ix i), .int .i64 (D i)] ∧ SB < Z) := by
            obtain ⟨a1, a2, a3⟩ := HI.out
            rw [← hW]
            have hSl : SB < wr.heap.size := by
              obtain ⟨cur, hb⟩ := ownsRow_block a1
              exact (Array.getElem?_eq_some_iff.1 hb).1
            exact ⟨ownsRow_of_block a1 (Below.heap_alloc _ _ _ hSl), a2, a3.keep ((Below.refl _ _).alloc (Nat.le_refl _) _), Row.new _ 54 _ _ hZ.symm, by omega⟩
          clear hW hZ HI c5 c8 o0 o1 o2
          by_cases hex : ∃ t ∈ S, t.p = p ∧ t.idx = x
          · as_aux_lemma =>
              obtain ⟨t, htS, htp, htx⟩ := hex
              have hlt2 := (HW.out.2.2.1.at1 t htS).2.2.2
              rw [htp, htx] at hlt2
              obtain ⟨g0, hg0⟩ : ∃ g0, t.g = g0 := ⟨_, rfl⟩
              obtain ⟨k0, hk0⟩ : ∃ k0, t.s = k0 := ⟨_, rfl⟩
              rw [hg0, hk0] at hlt2
              have Ht : Hid (t ∈ S ∧ t.p = p ∧ t.idx = x ∧ _) := ⟨htS, htp, htx, hlt2⟩
              have hal := at_lt hp1.1 hp1.2 hx1
              rw [HNS.out] at hal
              refine (lane_old M L NS each p x (D i) rc lc g0 (k0 * 7) W HW.out.2.2.1.row (by rw [HW.out.2.2.1.r5, HNS.out]) HW.out.2.2.1.r6 HW.out.2.2.1.lanes hp1.1 hal (by omega) hlt2 he9 (by omega) hx1).mono ?_
              rintro e w5 ⟨rfl, dn, rfl⟩
              clear htS htp htx hlt2 hal hg0 hk0
              generalize hV : World.drewN (World.alloc W _) dn = V
              have HV : Hid (V.ownsRow X 61 4 (.slice (some ⟨SB, 0, none⟩) S.length len) S.length xs ∧ Enc xs S ∧ Tab X M L N each S rc lc w V ∧ Row V Z 54 [.int .u16 (P i), .int .u8 (Ix i), .int .i64 (D i)] ∧ SB < Z) := by
                obtain ⟨a1, a2, a3, a4, a5⟩ := HW.out
                rw [← hV]
                have hbl : Below W.heap.size W ((W.alloc (.cells #[.int .i64 x, .int .i64 (D i)] 59)).drewN dn) := below_drewN ((Below.refl _ _).alloc (Nat.le_refl _) _) _
                have hSl : SB < W.heap.size := by have := a4.lt; omega
                exact ⟨ownsRow_of_block a1 (hbl.block _ hSl), a2, a3.keep hbl, a4.below hbl a4.lt, a5⟩
              clear hV HW
              go_wp2
              go_loop [24, 25] (fun fo j => ∃ y : Nat, y ≤ z ∧ j = .int .i64 y ∧ fo = .int .i64 (-1) ∧ ∀ y', y' < y → ∀ u, S[y']? = some u → ¬ (u.p = p ∧ u.idx = x)) (fun _ j => z - (intOf j).toNat)
              case atStart => exact ⟨0, Nat.zero_le _, rfl, rfl, fun _ h => by omega⟩
              case round =>
                obtain ⟨y, hy, rfl, rfl, hno⟩ := hrel
                have Hno : Hid _ := hno
                clear hno
                by_cases hlty : y < z
                · have hltyI : (y : Int) < (z : Int) := by omega
                  obtain ⟨u, hu⟩ : ∃ u, S[y]? = some u := ⟨S[y]'(by rw [Hz.out]; exact hlty), List.getElem?_eq_getElem _⟩
                  obtain ⟨x0, x1, x2, x3⟩ := HV.out.2.1 y u hu
                  have s0 : V.cell? ⟨SB, y * 4, none⟩ = some (.int .i64 u.p) := own_cell HV.out.1 x0
                  have s1 : V.cell? ⟨SB, y * 4 + 1, none⟩ = some (.int .i64 u.idx) := own_cell HV.out.1 x1
                  have s2 : V.cell? ⟨SB, y * 4 + 2, none⟩ = some (.int .i64 u.per) := own_cell HV.out.1 x2
                  have s3 : V.cell? ⟨SB, y * 4 + 3, none⟩ = some (lp u.g u.s) := own_cell HV.out.1 x3
                  unfold lp at s3
                  have Hu : Hid _ := hu
                  clear x0 x1 x2 x3 hu
                  by_cases hup : u.p = p
                  · have dup : ((u.p : Int) == (p : Int)) = true := by simp [hup]
                    by_cases hux : u.idx = x
                    · have dux : ((u.idx : Int) == (x : Int)) = true := by simp [hux]
                      have hud := HV.out.2.2.1.at1 u (List.mem_of_getElem? Hu.out)
                      rw [hup, hux, Ht.out.2.2.2] at hud
                      obtain ⟨_, _, _, hud⟩ := hud
                      unfold lp at hud
                      injection hud with hud
                      injection hud with hud
                      injection hud with hud
                      injection hud with hug hus
                      have hus2 : u.s = k0 := by omega
                      rw [← hug, hus2] at s3
                      obtain ⟨v0, v1, _⟩ := HV.out.2.2.1.cells u (List.mem_of_getElem? Hu.out)
                      rw [← hug, hus2, hup] at v0
                      rw [← hug, hus2] at v1
                      have v8 : V.cell? ⟨M, 8, none⟩ = some (.slice ao8 n8 cap8) := by rw [HV.out.2.2.1.row.cell]; exact H8.out
                      have v5 : V.cell? ⟨M, 5, none⟩ = some (.slice (some ⟨L, 0, none⟩) NS NS) := by rw [HV.out.2.2.1.row.cell, HV.out.2.2.1.r5, HNS.out]
                      obtain ⟨J, hJ⟩ : ∃ J, (p - 1) * each = J := ⟨_, rfl⟩
                      have hmul : ((p : Int) - 1) * (each : Int) = (J : Int) := by rw [← hJ, Int.natCast_mul]; congr 1; omega
                      obtain ⟨I, hI⟩ : ∃ I, J + x = I := ⟨_, rfl⟩
                      have hJI : (J : Int) + (x : Int) = (I : Int) := by omega
                      have vl : V.cell? ⟨L, I, none⟩ = some (.pointer (some ⟨g0, k0 * 7, none⟩)) := by
                        rw [HV.out.2.2.1.lanes.cell, ← hI, ← hJ]; exact Ht.out.2.2.2
                      have hIN : I < NS := by
                        have := at_lt hp1.1 hp1.2 hx1
                        rw [HNS.out, hJ, hI] at this
                        exact this
                      have bg := World.block_lt_of_cell? V _ v0
                      have bM := World.block_lt_of_cell? V _ v8
                      have bL := World.block_lt_of_cell? V _ vl
                      simp only at bg bM bL
                      have q56 : ∀ W a, (binOp .neq 56 (.pointer (some a)) (.pointer (some a))).run Ybaf.prog W = .ok (.bool false) W := fun W a => run_neq_ptr_same W a Ybaf.underlying56 hi67
                      clear hug hus hus2 hJ hI
                      go_upto_region 37 with fail
                      generalize hVA : World.alloc V _ = VA
                      have hZ2 : ∃ Z2, V.heap.size = Z2 := ⟨_, rfl⟩
                      obtain ⟨Z2, hZ2⟩ := hZ2
                      have rZ : Row VA Z2 61 [.int .i64 p, .int .i64 x, .int .i64 u.per, .pointer (some ⟨g0, k0 * 7, none⟩)] := by
                        rw [← hVA]; exact Row.new _ 61 _ _ hZ2.symm
                      have hbl : Below V.heap.size V VA := by rw [← hVA]; exact (Below.refl _ _).alloc (Nat.le_refl _) _
                      have z2 : VA.cell? ⟨Z2, 2, none⟩ = some (.int .i64 u.per) := by rw [rZ.cell]; rfl
                      have z3 : VA.cell? ⟨Z2, 3, none⟩ = some (.pointer (some ⟨g0, k0 * 7, none⟩)) := by rw [rZ.cell]; rfl
                      have v0 := (hbl.cell bg).trans v0
                      have v1 := (hbl.cell bg).trans v1
                      have v8 := (hbl.cell bM).trans v8
                      have v5 := (hbl.cell bM).trans v5
                      have vl := (hbl.cell bL).trans vl
                      have HB : Hid _ := hbl
                      rw [hZ2]
                      clear hVA hbl rZ s0 s1 s2 s3 hZ2 bg bM bL
                      go_quiet (fail)
                      go_wp2
                      go_roundw
                      case rel =>
                        obtain ⟨a1, a2, a3, a4, a5⟩ := HV.out
                        have hz := Hz.out
                        have hb := below_drewN HB.out nq
                        have hSl : SB < V.heap.size := by have := a4.lt; omega
                        exact ⟨i + 1, S, xs, rc, lc, by omega, by go_num, by rw [hz], by omega, ownsRow_of_block a1 (hb.block _ hSl), a2, a3.keep hb⟩
                      case measure => simp [intOf]; omega
                    · have dux : ((u.idx : Int) == (x : Int)) = false := by simp; omega
                      go_wp2
                      go_round
                      case rel =>
                        refine ⟨y + 1, by omega, by go_num, rfl, fun y' hy' v hv => ?_⟩
                        by_cases e : y' = y
                        · subst e
                          rw [Hu.out] at hv
                          injection hv with hv
                          subst hv
                          exact fun h => hux h.2
                        · exact Hno.out y' (by omega) v hv
                      case measure => simp [intOf]; omega
                  · have dup : ((u.p : Int) == (p : Int)) = false := by simp; omega
                    go_wp2
                    go_round
                    case rel =>
                      refine ⟨y + 1, by omega, by go_num, rfl, fun y' hy' v hv => ?_⟩
                      by_cases e : y' = y
                      · subst e
                        rw [Hu.out] at hv
                        injection hv with hv
                        subst hv
                        exact fun h => hup h.1
                      · exact Hno.out y' (by omega) v hv
                    case measure => simp [intOf]; omega
                · exfalso
                  obtain ⟨h1, h2, h3, _⟩ := Ht.out
                  obtain ⟨y', hy', he'⟩ := List.getElem_of_mem h1
                  exact Hno.out y' (by have := Hz.out; omega) t (by rw [List.getElem?_eq_getElem hy', he']) ⟨h2, h3⟩
          · as_aux_lemma =>
              have hno0 : ∀ t ∈ S, ¬ (t.p = p ∧ t.idx = x) := fun t ht h => hex ⟨t, ht, h⟩
              have hal := at_lt hp1.1 hp1.2 hx1
              rw [HNS.out] at hal
              refine (lane_new M L NS each p x (D i) rc lc W HW.out.2.2.1.row HW.out.2.2.1.rlen (by rw [HW.out.2.2.1.r5, HNS.out]) HW.out.2.2.1.r6 HW.out.2.2.1.lanes HW.out.2.2.1.ML hp1.1 hal (by omega) (HW.out.2.2.1.isNil hp1.1 hp1.2 hx1 hno0) he9 (by omega) hx1 HW.out.2.2.1.spare').mono ?_
              rintro e V ⟨g, s, n', sp, gc, rfl, nl⟩
              obtain ⟨tb, hdis⟩ := HW.out.2.2.1.lane hp1.1 hp1.2 hx1 hno0 nl
              obtain ⟨⟨ao', cap', hsp⟩, hk1, hk2⟩ := nl.left H8.out
              have hn9 : n' < each := by have := nl.sum; omega
              have HV : Hid (V.ownsRow X 61 4 (.slice (some ⟨SB, 0, none⟩) S.length len) S.length xs ∧ Enc xs S ∧ Tab X M L N each (S ++ [⟨p, x, D i, g, s⟩]) (rc.set 8 sp) (lc.set ((p - 1) * each + x) (lp g s)) w V ∧ Row V Z 54 [.int .u16 (P i), .int .u8 (Ix i), .int .i64 (D i)] ∧ SB < Z ∧ ∀ t ∈ S, ¬ (t.g = g ∧ t.s = s)) := by
                obtain ⟨a1, a2, a3, a4, a5⟩ := HW.out
                obtain ⟨cur, hb⟩ := ownsRow_block a1
                exact ⟨ownsRow_of_block a1 (a3.lane_keep nl hb (by decide) (by decide) (by decide)), a2, tb, a4.of_block (a3.lane_keep nl a4 (by decide) (by decide) (by decide)), a5, hdis⟩
              have l0 : V.cell? ⟨g, s * 7, none⟩ = some (.int .i64 p) := by rw [nl.lrow.cell]; exact nl.c0
              have l1 : V.cell? ⟨g, s * 7 + 1, none⟩ = some (.int .i64 (D i)) := by rw [nl.lrow.cell]; exact nl.c1
              have l2 : V.cell? ⟨g, s * 7 + 2, none⟩ = some (.slice (some ⟨g, s * 7 + 6, none⟩) 0 1) := by rw [nl.lrow.cell]; exact nl.c2
              have l3 : V.cell? ⟨g, s * 7 + 3, none⟩ = some (.int .i64 0) := by rw [nl.lrow.cell]; exact nl.c3
              have l4 : V.cell? ⟨g, s * 7 + 4, none⟩ = some (.int .i64 0) := by rw [nl.lrow.cell]; exact nl.c4
              have l5 : V.cell? ⟨g, s * 7 + 5, none⟩ = some (.bool false) := by rw [nl.lrow.cell]; exact nl.c5
              have v8 : V.cell? ⟨M, 8, none⟩ = some (.slice ao' n' cap') := by rw [nl.row.cell, List.getElem?_set_self (by rw [HW.out.2.2.1.rlen]; omega), hsp]
              have d2 : V.cell? ⟨Z, 2, none⟩ = some (.int .i64 (D i)) := by rw [HV.out.2.2.2.1.cell]; rfl
              have v5 : V.cell? ⟨M, 5, none⟩ = some (.slice (some ⟨L, 0, none⟩) NS NS) := by rw [tb.row.cell, tb.r5, HNS.out]
              have Hl : Hid (∃ gc, Row V g 67 gc) := ⟨gc, nl.lrow⟩
              have HL : Hid (_ ∧ _ ∧ _ ∧ _ ∧ _ ∧ _ ∧ _ ∧ _ ∧ _) := ⟨l0, l1, l2, l3, l4, l5, v8, d2, v5⟩
              have Hno0 : Hid _ := hno0
              clear nl tb hdis HW hno0 hex hsp hal l0 l1 l2 l3 l4 l5 v8 d2 v5
              unfold lp
              go_wp2
              go_loop [24, 25] (fun fo j => ∃ y : Nat, y ≤ z ∧ j = .int .i64 y ∧ fo = .int .i64 (-1)) (fun _ j => z - (intOf j).toNat)
              case atStart => exact ⟨0, Nat.zero_le _, rfl, rfl⟩
              case round =>
                obtain ⟨y, hy, rfl, rfl⟩ := hrel
                by_cases hlty : y < z
                · have hltyI : (y : Int) < (z : Int) := by omega
                  obtain ⟨u, hu⟩ : ∃ u, S[y]? = some u := ⟨S[y]'(by rw [Hz.out]; exact hlty), List.getElem?_eq_getElem _⟩
                  obtain ⟨x0, x1, x2, x3⟩ := HV.out.2.1 y u hu
                  have s0 : V.cell? ⟨SB, y * 4, none⟩ = some (.int .i64 u.p) := own_cell HV.out.1 x0
                  have s1 : V.cell? ⟨SB, y * 4 + 1, none⟩ = some (.int .i64 u.idx) := own_cell HV.out.1 x1
                  have hnu := Hno0.out u (List.mem_of_getElem? hu)
                  clear x0 x1 x2 x3 hu
                  by_cases hup : u.p = p
                  · have dup : ((u.p : Int) == (p : Int)) = true := by simp [hup]
                    have dux : ((u.idx : Int) == (x : Int)) = false := by
                      simp
                      intro e
                      exact hnu ⟨hup, by omega⟩
                    clear hnu
                    go_wp2
                    go_round
                    case rel => exact ⟨y + 1, by omega, by go_num, rfl⟩
                    case measure => simp [intOf]; omega
                  · have dup : ((u.p : Int) == (p : Int)) = false := by simp; omega
                    clear hnu
                    go_wp2
                    go_round
                    case rel => exact ⟨y + 1, by omega, by go_num, rfl⟩
                    case measure => simp [intOf]; omega
                · go_wp2
                  go_loop [27] (fun j => ∃ y : Nat, y ≤ z ∧ j = .int .i64 y) (fun j => z - (intOf j).toNat)
                  case atStart => exact ⟨0, Nat.zero_le _, rfl⟩
                  case round =>
                    clear hy hlty
                    obtain ⟨y, hy, rfl⟩ := hrel
                    by_cases hlty : y < z
                    · have hltyI : (y : Int) < (z : Int) := by omega
                      obtain ⟨u, hu⟩ : ∃ u, S[y]? = some u := ⟨S[y]'(by rw [Hz.out]; exact hlty), List.getElem?_eq_getElem _⟩
                      obtain ⟨x0, x1, x2, x3⟩ := HV.out.2.1 y u hu
                      have s3 : V.cell? ⟨SB, y * 4 + 3, none⟩ = some (lp u.g u.s) := own_cell HV.out.1 x3
                      unfold lp at s3
                      have hmem : u ∈ S := List.mem_of_getElem? hu
                      have q56 : (binOp .eql 56 (.pointer (some ⟨u.g, u.s * 7, none⟩)) (.pointer (some ⟨g, s * 7, none⟩))).run Ybaf.prog V = .ok (.bool false) V := by
                        obtain ⟨gc1, hg1⟩ := Hl.out
                        obtain ⟨_, _, gc2, hg2⟩ := HV.out.2.2.1.cells u (by simp [hmem])
                        have hne : (⟨u.g, u.s * 7, none⟩ : Addr) ≠ ⟨g, s * 7, none⟩ := fun e => by
                          injection e with e1 e2
                          exact HV.out.2.2.2.2.2 u hmem ⟨e1, by omega⟩
                        simp only [binOp]
                        simp [Op.equal, Op.maxDepth, run_equalIn_ptr_other V Ybaf.underlying56 hi67 (by rw [hs67]; omega) hne hg2 hg1 9999]
                      clear x0 x1 x2 x3 hu hmem
                      go_wp2
                      go_round
                      case rel => exact ⟨y + 1, by omega, by go_num⟩
                      case measure => simp [intOf]; omega
                    · obtain ⟨l0, l1, l2, l3, l4, l5, v8, d2, v5⟩ := HL.out
                      go_upto_region 44 with fail
                      go_quiet (fail)
                      generalize hVB : World.drewN V nq = VB
                      have HVB : Hid (V.heap = VB.heap ∧ Below V.heap.size V VB) := by rw [← hVB]; exact ⟨rfl, below_drewN (Below.refl _ _) _⟩
                      have k8 : VB.cell? ⟨M, 8, none⟩ = some (.slice ao' n' cap') := by rw [← hVB]; exact v8
                      have k2 : VB.cell? ⟨Z, 2, none⟩ = some (.int .i64 (D i)) := by rw [← hVB]; exact d2
                      clear hVB l0 l1 l2 l3 l4 l5 v8 d2 v5 HL
                      have HOwn : Hid (VB.ownsRow X 61 4 (.slice (some ⟨SB, 0, none⟩) z len) z xs) := by
                        have hz := Hz.out
                        have hSl : SB < V.heap.size := by have := HV.out.2.2.2.1.lt; have := HV.out.2.2.2.2.1; omega
                        rw [← hz]
                        exact ownsRow_of_block HV.out.1 (HVB.out.2.block _ hSl)
                      have HTB : Hid (Tab X M L N each (S ++ [⟨p, x, D i, g, s⟩]) (rc.set 8 sp) (lc.set ((p - 1) * each + x) (lp g s)) w VB) := HV.out.2.2.1.keep HVB.out.2
                      have HE : Hid (Enc xs S) := HV.out.2.1
                      have hXSB : X ≤ SB := by omega
                      obtain ⟨J, hJ⟩ : ∃ J, (p - 1) * each = J := ⟨_, rfl⟩
                      have hmul : ((p : Int) - 1) * (each : Int) = (J : Int) := by rw [← hJ, Int.natCast_mul]; congr 1; omega
                      obtain ⟨I, hI⟩ : ∃ I, J + x = I := ⟨_, rfl⟩
                      have hJI : (J : Int) + (x : Int) = (I : Int) := by omega
                      have hIN : I < NS := by
                        have := at_lt hp1.1 hp1.2 hx1
                        rw [HNS.out, hJ, hI] at this
                        exact this
                      have HJI : Hid (_ ∧ _) := ⟨hJ, hI⟩
                      have q56 : ∀ W a, (binOp .neq 56 (.pointer (some a)) (.pointer (some a))).run Ybaf.prog W = .ok (.bool false) W := fun W a => run_neq_ptr_same W a Ybaf.underlying56 hi67
                      clear hJ hI HVB HV Hl Hno0 hy hlty
                      have hnc : ∀ u ∈ [Value.int .i64 p, .int .i64 x, .int .i64 (D i), .pointer (some ⟨g, s * 7, none⟩)], u.oneCell' = true := by
                        intro u hu
                        simp at hu
                        rcases hu with rfl | rfl | rfl | rfl <;> rfl
                      have Hnc : Hid _ := hnc
                      have hcc : ∀ j u, [Value.int .i64 p, .int .i64 x, .int .i64 (D i), .pointer (some ⟨g, s * 7, none⟩)][j]? = some u → (VB.alloc (.cells #[.int .i64 p, .int .i64 x, .int .i64 (D i), .pointer (some ⟨g, s * 7, none⟩)] 61)).cell? ((⟨VB.heap.size, 0, none⟩ : Addr).add j) = some u := by
                        intro t u ht
                        have hr := Row.new VB 61 [.int .i64 p, .int .i64 x, .int .i64 (D i), .pointer (some ⟨g, s * 7, none⟩)] _ rfl
                        have h0 := hr.cell t
                        rw [ht] at h0
                        have e : (⟨VB.heap.size, 0, none⟩ : Addr).add t = ⟨VB.heap.size, t, none⟩ := by
                          by_cases h : t = 0
                          · subst h; simp [Addr.add]
                          · simp [Addr.add, h]
                        rw [e]
                        exact h0
                      have Hcc : Hid _ := hcc
                      clear hnc hcc
                      by_cases hn8 : n8 = 0
                      all_goals
                        go_wp2_with (at_builtin; refine wpList_append_fits _ rfl _ _ 52 rfl X 61 i61 4 Ybaf.underlying52 hi61 hs61 SB z len xs rfl (HOwn.out.alloc _) ⟨VB.heap.size, 0, none⟩ 1 1 [.int .i64 p, .int .i64 x, .int .i64 (D i), .pointer (some ⟨g, s * 7, none⟩)] rfl rfl Hcc.out Hnc.out (by omega) ?_)
                        · intro w7 hown7 hgrow7
                          have HY : Hid (w7.ownsRow X 61 4 (.slice (some ⟨SB, 0, none⟩) (S ++ [(⟨p, x, D i, g, s⟩ : Sn)]).length len) (S ++ [(⟨p, x, D i, g, s⟩ : Sn)]).length (xs ++ [.int .i64 p, .int .i64 x, .int .i64 (D i), lp g s]) ∧ Enc (xs ++ [.int .i64 p, .int .i64 x, .int .i64 (D i), lp g s]) (S ++ [⟨p, x, D i, g, s⟩]) ∧ Tab X M L N each (S ++ [⟨p, x, D i, g, s⟩]) (rc.set 8 sp) (lc.set ((p - 1) * each + x) (lp g s)) w w7) := by
                            have hz := Hz.out
                            have hl : (S ++ [(⟨p, x, D i, g, s⟩ : Sn)]).length = z + 1 := by simp [hz]
                            refine ⟨by rw [hl]; exact hown7, HE.out.snoc (by rw [hz]; exact HOwn.out.1) ⟨p, x, D i, g, s⟩, ?_⟩
                            have ho := HOwn.out
                            rw [← hz] at ho
                            exact (HTB.out.keep ((Below.refl _ _).alloc (Nat.le_refl _) _)).grown (S := S) (ho.alloc _) hXSB hgrow7
                          have v5 : w7.cell? ⟨M, 5, none⟩ = some (.slice (some ⟨L, 0, none⟩) NS NS) := by rw [HY.out.2.2.row.cell, HY.out.2.2.r5, HNS.out]
                          have vl : w7.cell? ⟨L, I, none⟩ = some (.pointer (some ⟨g, s * 7, none⟩)) := by
                            rw [HY.out.2.2.lanes.cell, HJI.out.1, HJI.out.2, List.getElem?_set_self]
                            · rfl
                            · have h := HY.out.2.2.llen
                              rw [List.length_set] at h
                              rw [h, HNS.out]
                              exact hIN
                          clear hown7 hgrow7 k8 k2
                          go_wp2
                          go_roundw
                          case rel =>
                            obtain ⟨a1, a2, a3⟩ := HY.out
                            have hl : (S ++ [(⟨p, x, D i, g, s⟩ : Sn)]).length = z + 1 := by simp [Hz.out]
                            exact ⟨i + 1, _, _, _, _, by omega, by go_num, by rw [hl], by omega, a1, a2, a3⟩
                          case measure => simp [intOf]; omega
        · as_aux_lemma =>
            have Hc : Hid (lc.countP isP = z ∧ lc.length = NS) := ⟨by rw [HI.out.2.2.count, Hz.out], by rw [HI.out.2.2.llen, HNS.out]⟩
            clear c8 ht
            go_wp2
            go_loop [29, 30] (fun cv j => ∃ y : Nat, y ≤ NS ∧ j = .int .i64 y ∧ cv = .int .i64 ((lc.take y).countP isP : Nat)) (fun _ j => NS - (intOf j).toNat)
            case atStart => exact ⟨0, Nat.zero_le _, rfl, rfl⟩
            case round =>
              obtain ⟨y, hy, rfl, rfl⟩ := hrel
              obtain ⟨q, hq⟩ : ∃ q, (lc.take y).countP isP = q := ⟨_, rfl⟩
              have hqb : q ≤ y := by
                rw [← hq]
                exact Nat.le_trans List.countP_le_length (by rw [List.length_take]; omega)
              rw [hq]
              have Hq : Hid _ := hq
              clear hq
              by_cases hlty : y < NS
              · have hyI : (y : Int) < (NS : Int) := by omega
                rcases HI.out.2.2.at2 y (by rw [HNS.out]; exact hlty) with h1 | ⟨t, htS, h1⟩
                · have cl : wr.cell? ⟨L, y, none⟩ = some (.pointer none) := by rw [HI.out.2.2.lanes.cell]; exact h1
                  have Hh : Hid _ := h1
                  clear h1
                  go_wp2
                  go_round
                  case rel => exact ⟨y + 1, by omega, by go_num, by rw [count_step Hh.out, Hq.out]; simp [isP]⟩
                  case measure => simp [intOf]; omega
                · have h2 : lc[y]? = some (lp t.g t.s) := by rw [h1]; exact (HI.out.2.2.at1 t htS).2.2.2
                  have cl : wr.cell? ⟨L, y, none⟩ = some (lp t.g t.s) := by rw [HI.out.2.2.lanes.cell]; exact h2
                  unfold lp at cl
                  have Hh : Hid _ := h2
                  clear h1 h2 htS
                  go_wp2
                  go_round
                  case rel => exact ⟨y + 1, by omega, by go_num, by rw [count_step Hh.out, Hq.out]; simp [isP, lp]⟩
                  case measure => simp [intOf]; omega
              · obtain rfl : q = z := by
                  rw [← Hq.out, ← Hc.out.1, List.take_of_length_le]
                  rw [Hc.out.2]; omega
                go_wp2
                go_ret
                exact ⟨rfl, HI.out.2.2.below⟩
end Lanes
end Go.Proofs.YbulkcrfgFmt
