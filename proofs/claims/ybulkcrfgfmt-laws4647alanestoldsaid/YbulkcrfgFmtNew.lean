/-
  newEchoBroadcast of a sound group with one to three classes of periods.
-/
import Derived.Test.YbulkcrfgFmtSmall
import Derived.Deep.RegionHeld3
namespace Go.Proofs.YbulkcrfgFmt
open Go.RowKit
namespace Lanes
open Kit

theorem info3 : (Ybaf.prog.info? 3).map (fun i => (i.zero, i.size, i.bytes)) = some (some (.int .i64 0), 1, 8) := by kernel_rfl
theorem info56 : (Ybaf.prog.info? 56).map (fun i => (i.zero, i.size, i.bytes)) = some (some (.pointer none), 1, 8) := by kernel_rfl
theorem info59 : (Ybaf.prog.info? 59).map (fun i => (i.zero, i.size, i.bytes)) = some (some (.agg #[.int .i64 0, .int .i64 0]), 2, 16) := by kernel_rfl
theorem info42 : (Ybaf.prog.info? 42).map (fun i => (i.zero, i.size, i.bytes)) = some (some (.slice none 0 0), 1, 24) := by kernel_rfl
theorem elem34 : Ybaf.prog.underlying 34 = some (.slice 56) := Ybaf.underlying34

/-- A make of n cells, as an equation for a region. -/
theorem make_run (t e : TypeId) (i : TypeInfo) (z : Value) (n : Nat) (h1 : Ybaf.prog.underlying t = some (.slice e)) (h2 : Ybaf.prog.info? e = some i) (h3 : i.zero = some z) (hb : i.bytes * n ≤ 281474976710656) (hn : n ≤ maxLen) (W : World) :
    (Instr.makeSlice t (.int .i64 n) (.int .i64 n)).run Ybaf.prog W = .ok (.slice (some ⟨W.heap.size, 0, none⟩) n n) (W.alloc (.cells (madeCells z.cells (n * i.size)) e)) := by
  have h63 : (n : Int) ≤ 9223372036854775807 := by unfold maxLen at hn; omega
  have hb' : (i.bytes : Int) * (n : Int) ≤ 281474976710656 := by
    have h : ((i.bytes * n : Nat) : Int) ≤ 281474976710656 := by omega
    rwa [Int.natCast_mul] at h
  have hrun := run_make (P := Ybaf.prog) W t e i z h1 h2 h3 .i64 .i64 n n (by omega) (by omega) hb' h63
  simpa only [Int.toNat_natCast] using hrun

def ptr (g : Nat) : Value := .pointer (some ⟨g, 0, none⟩)

theorem World.heap_alloc_size' (w : World) (o : Obj) : (w.alloc o).heap.size = w.heap.size + 1 := by simp
theorem World.drew_heap' (w : World) : w.drew.heap.size = w.heap.size := rfl

/-- Block M is a member whose lanesEach is S and which has no spare lanes. -/
def MRow (w : World) (M S : Nat) : Prop := ∃ r, Row w M 51 r ∧ r.length = 22 ∧ r[6]? = some (.int .i64 S) ∧ r[8]? = some (.slice none 0 0)
theorem MRow.set {w : World} {M S : Nat} (h : MRow w M S) (i : Nat) (v : Value) (h6 : i ≠ 6) (h8 : i ≠ 8) : MRow (w.setCell ⟨M, i, none⟩ v) M S := by
  obtain ⟨r, h1, h2, h3, h4⟩ := h
  exact ⟨r.set i v, h1.set i v, by simp [h2], by rw [List.getElem?_set_ne h6]; exact h3, by rw [List.getElem?_set_ne h8]; exact h4⟩
theorem MRow.other {w w' : World} {M S : Nat} (h : MRow w M S) (e : w'.heap[M]? = w.heap[M]?) : MRow w' M S := by
  obtain ⟨r, h1, h2⟩ := h
  exact ⟨r, h1.of_block e, h2⟩

theorem sum_le (q : Nat → Nat) (k : Nat) (h : ∀ i, q i ≤ 3) : ((List.range k).map q).sum ≤ 3 * k := by
  induction k with
  | zero => simp
  | succ k ih => rw [List.range_succ, List.map_append, List.sum_append]; simp; have := h k; omega
theorem sum_succ (q : Nat → Nat) (k : Nat) : ((List.range (k + 1)).map q).sum = ((List.range k).map q).sum + q k := by
  rw [List.range_succ, List.map_append, List.sum_append]; simp

/-- newMailbox beside a block C that is kept. -/
theorem box_keep (C N : Nat) (hn : N ≤ 1024) (w : World) (h : w.cell? ⟨C, 0, none⟩ = some (.int .i64 N) ∧ w.cell? ⟨C, 1, none⟩ = some (.int .i64 0) ∧ C < w.heap.size) :
    Calls Ybaf.prog 7 #[.int .i64 N] w fun e w' => ∃ g, e = .returned (.agg #[.slice (some ⟨g, 0, none⟩) (N + 1) (N + 1), .slice none 0 0]) ∧ (w'.cell? ⟨C, 0, none⟩ = some (.int .i64 N) ∧ w'.cell? ⟨C, 1, none⟩ = some (.int .i64 0) ∧ C < w'.heap.size) ∧ C < w'.heap.size + 1 ∧ C < w'.heap.size + 1 + 1 ∧ Below w.heap.size w w' := by
  refine (box_any N hn w).mono ?_
  rintro e w' ⟨g, rfl, hs, hb⟩
  obtain ⟨h1, h2, h3⟩ := h
  exact ⟨g, rfl, ⟨(hb.cell h3).trans h1, (hb.cell h3).trans h2, by omega⟩, by omega, by omega, hb⟩

set_option maxHeartbeats 2000000 in
set_option maxRecDepth 20000 in
theorem newEcho (N b n : Nat) (f q : Nat → Nat) (w : World) (hN1 : 1 ≤ N) (hN2 : N ≤ 1024) (hn1 : 1 ≤ n) (hn3 : n ≤ 3) (hq : ∀ i, 1 ≤ q i ∧ q i ≤ 3) (hf : ∀ i, f i = n * q i)
    (hp : Row w b 3 ((List.range n).map fun i => .int .i64 (f i))) :
    Calls Ybaf.prog 4 #[.agg #[.int .i64 N, .int .i64 0], .int .i64 1, .slice (some ⟨b, 0, none⟩) n n, .nilFunc] w fun e w' => ∃ M L each rc, e = .returned (.tuple #[ptr M, .nilIface]) ∧
      each = ((List.range n).map q).sum ∧ Row w' M 51 rc ∧ rc.length = 22 ∧ rc[5]? = some (.slice (some ⟨L, 0, none⟩) (N * each) (N * each)) ∧ rc[6]? = some (.int .i64 each) ∧ rc[8]? = some (.slice none 0 0) ∧
      Row w' L 56 (List.replicate (N * each) (.pointer none)) ∧ w.heap.size ≤ M ∧ w.heap.size ≤ L ∧ M ≠ L ∧ Below w.heap.size w w' := by
  obtain ⟨i3, hi3, hz3, hs3, hb3⟩ := info_parts info3
  obtain ⟨i56, hi56, hz56, hs56, hb56⟩ := info_parts info56
  obtain ⟨i59, hi59, hz59, hs59, hb59⟩ := info_parts info59
  obtain ⟨i42, hi42, hz42, hs42, hb42⟩ := info_parts info42
  have Hq : Hid _ := hq
  have Hf : Hid _ := hf
  have Hp : Hid (Row w b 3 _) := hp
  have hbw : b < w.heap.size := hp.lt
  clear hq hf hp
  go_enter Ybaf.func4, Ybaf.ntmps4
  go_wp2_with fail
  refine (check_ok N hN1 hN2 _).mono ?_
  rintro e w1 ⟨rfl, rfl⟩
  go_upto_region 4 with fail
  generalize hW : World.alloc (World.alloc w _) _ = W
  have HW : Hid (Row W w.heap.size 32 [.int .i64 N, .int .i64 0] ∧ Row W b 3 ((List.range n).map fun i => .int .i64 (f i)) ∧ w.heap.size < W.heap.size ∧ Below w.heap.size w W) := by
    rw [← hW]
    exact ⟨(Row.new w 32 _ _ rfl).alloc _, (Hp.out.alloc _).alloc _, by simp; omega, ((Below.refl _ _).alloc (Nat.le_refl _) _).alloc (by simp) _⟩
  have cN : W.cell? ⟨w.heap.size, 0, none⟩ = some (.int .i64 N) := by rw [HW.out.1.cell]; rfl
  have cT : W.cell? ⟨w.heap.size, 1, none⟩ = some (.int .i64 0) := by rw [HW.out.1.cell]; rfl
  have hWs : w.heap.size < W.heap.size := HW.out.2.2.1
  have hWs1 : w.heap.size < W.heap.size + 1 := by omega
  have hWs2 : w.heap.size < W.heap.size + 1 + 1 := by omega
  clear hW
  obtain ⟨mc, hmc⟩ : ∃ mc, madeCells (Value.slice none 0 0).cells ((N + 1) * i42.size) = mc := ⟨_, rfl⟩
  have hmk41 : ∀ V, (Instr.makeSlice 41 (.int .i64 ((N : Int) + 1)) (.int .i64 ((N : Int) + 1))).run Ybaf.prog V = .ok (.slice (some ⟨V.heap.size, 0, none⟩) (N + 1) (N + 1)) (V.alloc (.cells mc 42)) := fun V => by
    have := make_run 41 42 i42 _ (N + 1) Ybaf.underlying41 hi42 hz42 (by rw [hb42]; omega) (by unfold maxLen; omega) V
    rw [hmc] at this
    exact this
  have hmm := @run_makeMap Ybaf.prog
  have hwr : IntKind.i64.wrap ((N : Int) + 1) = (N : Int) + 1 := by rw [IntKind.wrap_i64]; omega
  go_cut [11] (fun v wx => ∃ M rc, v = ptr M ∧ Row wx M 51 rc ∧ rc.length = 22 ∧ rc[6]? = some (.int .i64 0) ∧ rc[8]? = some (.slice none 0 0) ∧ W.heap.size ≤ M ∧ Below W.heap.size W wx)
  case first =>
    go_region_held3 (fun V => V.cell? ⟨w.heap.size, 0, none⟩ = some (.int .i64 N) ∧ V.cell? ⟨w.heap.size, 1, none⟩ = some (.int .i64 0) ∧ w.heap.size < V.heap.size) (first | assumption | (simp [*, World.cell?_alloc_past]; done) | (simp [*, World.cell?_alloc_past]; omega))
      (first | (go_at_call 7; refine (box_keep w.heap.size N hN2 _ ?_).mono ?_; (first | assumption | (simp [*, World.cell?_alloc_past]; done)); rintro e wb ⟨g, rfl, hsb, hsb1, hsb2, hbb⟩))
    all_goals
      go_wp2
      go_meet
      have hsz := hbb.size
      simp only [World.heap_alloc_size', World.drew_heap'] at hsz
      refine ⟨_, _, rfl, Row.new _ 51 _ _ (by simp), rfl, rfl, rfl, by omega, ?_⟩
      repeat (first | exact Below.refl _ _ | refine Below.drew ?_ | refine Below.alloc ?_ (by first | omega | (simp; done) | (simp; omega)) _ | refine Below.trans ?_ (hbb.mono (by first | omega | (simp; done) | (simp; omega))))
  case rest =>
    obtain ⟨M, rc, rfl, hR, hlen, h6, h8, hM, hbc⟩ := hcut
    have HR : Hid (Row wc M 51 rc ∧ rc.length = 22 ∧ rc[6]? = some (.int .i64 0) ∧ rc[8]? = some (.slice none 0 0) ∧ Row wc w.heap.size 32 [.int .i64 N, .int .i64 0] ∧ Row wc b 3 ((List.range n).map fun i => .int .i64 (f i)) ∧ Below w.heap.size w wc) := by
      obtain ⟨a1, a2, a3, a4⟩ := HW.out
      exact ⟨hR, hlen, h6, h8, a1.below hbc (by omega), a2.below hbc (by omega), a4.trans (hbc.mono (by omega))⟩
    have hMw : w.heap.size < M := by omega
    have hMc : M < wc.heap.size := hR.lt
    clear hR hlen h6 h8 hbc hM HW hmk41 hmm hmc cN cT hWs hWs1 hWs2 hwr
    obtain ⟨pc, hpc, hpl⟩ : ∃ pc : List Value, madeCells (Value.int .i64 0).cells (n * i3.size) = pc.toArray ∧ pc.length = n := ⟨(madeCells (Value.int .i64 0).cells (n * i3.size)).toList, by simp, by simp [size_madeCells, hs3]⟩
    have hmk25 : ∀ V, (Instr.makeSlice 25 (.int .i64 (n : Int)) (.int .i64 (n : Int))).run Ybaf.prog V = .ok (.slice (some ⟨V.heap.size, 0, none⟩) n n) (V.alloc (.cells pc.toArray 3)) := fun V => by
      have := make_run 25 3 i3 _ n Ybaf.underlying25 hi3 hz3 (by rw [hb3]; omega) (by unfold maxLen; omega) V
      rw [hpc] at this
      exact this
    unfold ptr
    go_wp2_with fail
    go_region
    obtain ⟨FL, hFL⟩ : ∃ FL, wc.heap.size = FL := ⟨_, rfl⟩
    rw [hFL]
    generalize hW2 : (World.alloc wc _).drew = W2
    have HS : Hid (Row W2 M 51 (rc.set 6 (.int .i64 ((0 : Nat) : Int))) ∧ Row W2 FL 3 pc ∧ Row W2 w.heap.size 32 [.int .i64 N, .int .i64 0] ∧ Row W2 b 3 ((List.range n).map fun i => .int .i64 (f i)) ∧ FL < W2.heap.size ∧ Below w.heap.size w W2) := by
      obtain ⟨a1, a2, a3, a4, a5, a6, a7⟩ := HR.out
      rw [← hW2]
      have e : rc.set 6 (.int .i64 ((0 : Nat) : Int)) = rc := by
        apply List.ext_getElem?
        intro j
        by_cases hj : j = 6
        · subst hj; rw [List.getElem?_set_self (by omega), a3]; rfl
        · rw [List.getElem?_set_ne (by omega)]
      rw [e]
      exact ⟨a1.alloc _, Row.new _ 3 _ _ hFL.symm, a5.alloc _, a6.alloc _, by simp; omega, (a7.alloc (by omega) _).drew⟩
    rw [hFL] at hMc
    have hrl : rc.length = 22 := HR.out.2.1
    have hr8 : rc[8]? = some (.slice none 0 0) := HR.out.2.2.2.1
    have Hr8 : Hid _ := hr8
    clear hW2 hFL HR hmk25 hpc hr8
    go_wp2
    go_loopw [46] (fun i wr => ∃ (k : Nat) (fl : List Value), k ≤ n ∧ i = .int .i64 k ∧ Row wr M 51 (rc.set 6 (.int .i64 (((List.range k).map q).sum : Nat))) ∧ Row wr FL 3 fl ∧ fl.length = n ∧ (∀ j, j < k → ∃ x : Nat, fl[j]? = some (.int .i64 x) ∧ x ≤ 9) ∧ Row wr w.heap.size 32 [.int .i64 N, .int .i64 0] ∧ Row wr b 3 ((List.range n).map fun i => .int .i64 (f i)) ∧ FL < wr.heap.size ∧ Below w.heap.size w wr) (fun i _ => n - (intOf i).toNat)
    case atStart =>
      obtain ⟨a1, a2, a3, a4, a5, a6⟩ := HS.out
      exact ⟨0, pc, Nat.zero_le _, rfl, a1, a2, hpl, fun j hj => by omega, a3, a4, a5, a6⟩
    case round =>
      obtain ⟨k, fl, hk, rfl, q1, q2, hfl, q3, q4, q5, q6, q7⟩ := hrel
      obtain ⟨S, hS⟩ : ∃ S, ((List.range k).map q).sum = S := ⟨_, rfl⟩
      have hS9 : S ≤ 3 * k := by rw [← hS]; exact sum_le q k (fun i => (Hq.out i).2)
      rw [hS] at q1
      have HX : Hid (_ ∧ _ ∧ _ ∧ _ ∧ _) := ⟨q1, q2, q3, q4, q5⟩
      have HSS : Hid _ := hS
      have c6 : wr.cell? ⟨M, 6, none⟩ = some (.int .i64 S) := by rw [q1.cell, List.getElem?_set_self (by omega)]
      have f6 := q1.frozen 6
      clear hS q3 q4
      by_cases hlt : k < n
      · have hltI : (k : Int) < (n : Int) := by omega
        obtain ⟨fk, hfk⟩ : ∃ fk, f k = fk := ⟨_, rfl⟩
        have cp : wr.cell? ⟨b, k, none⟩ = some (.int .i64 fk) := by rw [q5.cell]; simp [hlt, hfk]
        have cF : wr.cell? ⟨FL, k, none⟩ = some fl[k] := by rw [q2.cell]; simp
        have fF := q2.frozen k
        have hdiv : (fk : Int) / (n : Int) = (q k : Int) := by
          rw [← hfk, Hf.out k, Int.natCast_mul, Int.mul_ediv_cancel_left _ (by omega)]
        have hfk0 : fk ≤ 9 := by
          have h1 := (Hq.out k).2
          have h2 := Hf.out k
          have h3 : n * q k ≤ 3 * 3 := Nat.mul_le_mul hn3 h1
          omega
        have hqk := Hq.out k
        clear q1 q2 q5 hfk
        go_wp2_with fail
        generalize hV : World.setCell wr _ _ = V
        have HV : Hid (Row V M 51 (rc.set 6 (.int .i64 S)) ∧ Row V FL 3 (fl.set k (.int .i64 S)) ∧ Row V w.heap.size 32 [.int .i64 N, .int .i64 0] ∧ Row V b 3 ((List.range n).map fun i => .int .i64 (f i)) ∧ V.heap.size = wr.heap.size ∧ Below w.heap.size w V) := by
          obtain ⟨a1, a2, a3, a4, a5⟩ := HX.out
          rw [← hV]
          exact ⟨a1.setOther _ _ (by simp; omega), a2.set k _, a4.setOther _ _ (by simp; omega), a5.setOther _ _ (by simp; omega), by simp [World.setCell], q7.setCell (by simp; omega) _⟩
        have d6 : V.cell? ⟨M, 6, none⟩ = some (.int .i64 S) := by rw [HV.out.1.cell, List.getElem?_set_self (by omega)]
        have g6 := HV.out.1.frozen 6
        clear hV c6 f6 cF fF cp
        have hdt : (fk : Int).tdiv (n : Int) = (q k : Int) := by rw [Int.tdiv_eq_ediv_of_nonneg (by omega)]; exact hdiv
        go_region
        go_wp2
        go_roundw
        case rel =>
          obtain ⟨a1, a2, a3, a4, a5, a6⟩ := HV.out
          have hx := HX.out.2.2.1
          refine ⟨k + 1, fl.set k (.int .i64 S), by omega, by go_num, ?_, a2.setOther _ _ (by simp; omega), by simp [hfl], ?_, a3.setOther _ _ (by simp; omega), a4.setOther _ _ (by simp; omega), by simp; omega, ?_⟩
          · rw [sum_succ, HSS.out]
            have := a1.set 6 (.int .i64 ((S + q k : Nat) : Int))
            rw [List.set_set] at this
            simp only [Int.natCast_add] at this ⊢
            exact this
          · intro j hj
            by_cases e : j = k
            · subst e; exact ⟨S, by rw [List.getElem?_set_self (by omega)], by omega⟩
            · rw [List.getElem?_set_ne (by omega)]; exact hx j (by omega)
          · exact (a6.setCell (by simp; omega) _).drew
        case measure => simp [intOf]; omega
      · obtain rfl : k = n := by omega
        have hfb : ∀ i, f i ≤ 9 := by
          intro i
          have h1 := (Hq.out i).2
          have h2 := Hf.out i
          have h3 : k * q i ≤ 3 * 3 := Nat.mul_le_mul hn3 h1
          omega
        have hfp : ∀ i, 1 ≤ f i := by
          intro i
          have h1 := (Hq.out i).1
          have h2 := Hf.out i
          have h3 : 1 * 1 ≤ k * q i := Nat.mul_le_mul hn1 h1
          omega
        have Hfb : Hid (_ ∧ _) := ⟨hfb, hfp⟩
        have hcp : ∀ i, i < k → wr.cell? ⟨b, i, none⟩ = some (.int .i64 (f i)) := fun i hi => by rw [q5.cell]; simp [hi]
        have Hcp : Hid _ := hcp
        clear hfb hfp hcp q1 q2 q5 hlt hk
        go_wp2_with fail
        refine (max_any b k f wr hn1 (by omega) (fun i => by have := Hfb.out.1 i; omega) Hcp.out).mono ?_
        rintro e wm ⟨mx, rfl, hmx1, ⟨im, him, hmx2⟩, rfl⟩
        have hmx : 1 ≤ mx ∧ mx ≤ 9 := by have h1 := Hfb.out.1 im; have h2 := Hfb.out.2 im; omega
        clear hmx1 hmx2 him
        have c7 : ∃ v, wm.cell? ⟨M, 7, none⟩ = some v := ⟨_, by rw [HX.out.1.cell, List.getElem?_set_ne (by omega), List.getElem?_eq_getElem (by omega)]⟩
        obtain ⟨v7, c7⟩ := c7
        have f7 := HX.out.1.frozen 7
        clear c6 f6
        go_upto_region 13 with (at_make; refine wpList_make_new _ rfl _ _ 35 rfl 59 i59 _ 2 Ybaf.underlying35 hi59 hz59 hs59 _ _ _ _ mx mx rfl rfl rfl rfl (Nat.le_refl _) (by rw [hb59]; omega) (by unfold maxLen; omega) ?_)
        intro w3 hsz3 hrow3 hbel3
        obtain ⟨SL, hSL⟩ : ∃ SL, wm.heap.size = SL := ⟨_, rfl⟩
        rw [hSL] at hsz3 hrow3 hbel3 ⊢
        obtain ⟨sl0, hsl0, hr3⟩ : ∃ x0 : List Value, x0.length = mx * 2 ∧ Row w3 SL 59 x0 := ⟨_, by simp [size_madeCells], hrow3⟩
        have hFS : FL < SL := by omega
        have HY : Hid (MRow w3 M S ∧ Row w3 SL 59 sl0 ∧ Row w3 FL 3 fl ∧ Row w3 w.heap.size 32 [.int .i64 N, .int .i64 0] ∧ Row w3 b 3 ((List.range k).map fun i => .int .i64 (f i)) ∧ SL < w3.heap.size ∧ Below w.heap.size w w3) := by
          obtain ⟨a1, a2, a3, a4, a5⟩ := HX.out
          exact ⟨⟨_, a1.below hbel3 (by omega), by simp [hrl], by rw [List.getElem?_set_self (by omega)], by rw [List.getElem?_set_ne (by omega)]; exact Hr8.out⟩, hr3, a2.below hbel3 (by omega), a4.below hbel3 (by omega), a5.below hbel3 (by omega), by omega, q7.trans (hbel3.mono (by omega))⟩
        have hx9 : ∀ j, j < k → ∃ x : Nat, fl[j]? = some (.int .i64 x) ∧ x ≤ 9 := HX.out.2.2.1
        have Hx9 : Hid _ := hx9
        have d7 : w3.cell? ⟨M, 7, none⟩ = some v7 := (hbel3.cell (by simp; omega)).trans c7
        have e7 : w3.frozen? ⟨M, 7, none⟩ = false := (hbel3.frozen (by simp; omega)).trans f7
        clear hsz3 hrow3 hbel3 hSL HX c7 f7 hr3 hx9 q6 q7 Hcp
        go_wp2
        go_loopw [80] (fun i wr => ∃ (t : Nat) (sl : List Value), t ≤ mx ∧ i = .int .i64 t ∧ sl.length = mx * 2 ∧ MRow wr M S ∧ Row wr SL 59 sl ∧ Row wr FL 3 fl ∧ Row wr w.heap.size 32 [.int .i64 N, .int .i64 0] ∧ Row wr b 3 ((List.range k).map fun i => .int .i64 (f i)) ∧ wr.cell? ⟨M, 7, none⟩ = some (.slice (some ⟨SL, 0, none⟩) mx mx) ∧ SL < wr.heap.size ∧ Below w.heap.size w wr) (fun i _ => mx - (intOf i).toNat)
        case atStart =>
          obtain ⟨a1, a2, a3, a4, a5, a6, a7⟩ := HY.out
          exact ⟨0, sl0, Nat.zero_le _, rfl, hsl0, a1.set 7 _ (by omega) (by omega), a2.setOther _ _ (by simp; omega), a3.setOther _ _ (by simp; omega), a4.setOther _ _ (by simp; omega), a5.setOther _ _ (by simp; omega), World.cell?_setCell_same _ _ _ d7, by simp; omega, a7.setCell (by simp; omega) _⟩
        case round =>
          clear HY d7 e7 hsl0
          obtain ⟨t, sl, ht, rfl, hsl, p1, p2, p3, p4, p5, p6, p7, p8⟩ := hrel
          by_cases hlt : t < mx
          · have hltI : (t : Int) < (mx : Int) := by omega
            have htk : t % k < k := Nat.mod_lt _ (by omega)
            obtain ⟨fc, hfc⟩ : ∃ fc, f (t % k) = fc := ⟨_, rfl⟩
            obtain ⟨x, hx, hx9⟩ := Hx9.out (t % k) htk
            have cb : wr.cell? ⟨b, t % k, none⟩ = some (.int .i64 fc) := by rw [p5.cell]; simp [htk, hfc]
            have cf : wr.cell? ⟨FL, t % k, none⟩ = some (.int .i64 x) := by rw [p3.cell]; exact hx
            have hfc1 : 1 ≤ fc ∧ fc ≤ 9 := by have h1 := Hfb.out.1 (t % k); have h2 := Hfb.out.2 (t % k); omega
            obtain ⟨y0, cy0⟩ : ∃ y, wr.cell? ⟨SL, t * 2, none⟩ = some y := ⟨sl[t * 2], by rw [p2.cell]; simp⟩
            obtain ⟨y1, cy1⟩ : ∃ y, wr.cell? ⟨SL, t * 2 + 1, none⟩ = some y := ⟨sl[t * 2 + 1], by rw [p2.cell]; simp⟩
            have fy0 := p2.frozen (t * 2)
            have fy1 := p2.frozen (t * 2 + 1)
            have HP : Hid (_ ∧ _ ∧ _ ∧ _ ∧ _) := ⟨p1, p2, p3, p4, p5⟩
            have hzk : ((k : Int) == 0) = false := by simp; omega
            have hzf : ((fc : Int) == 0) = false := by simp; omega
            have htkI : ((t : Int) % (k : Int)) < (k : Int) := by omega
            have htkJ : 0 ≤ ((t : Int) % (k : Int)) := by omega
            clear p1 p2 p3 p4 p5 hfc hx
            go_wp2
            go_quiet (fail)
            go_wp2
            go_region
            go_wp2
            go_roundw
            case rel =>
              obtain ⟨a1, a2, a3, a4, a5⟩ := HP.out
              have ho : ∀ u v : Value, Only SL wr (((wr.drewN (nq + 1)).setCell ⟨SL, t * 2, none⟩ u).setCell ⟨SL, t * 2 + 1, none⟩ v) := fun u v => (((Only.refl _ _).drewN _).setCell _ _).setCell _ _
              refine ⟨t + 1, _, by omega, by go_num, ?_, a1.other ((ho _ _).block M (by omega)), ((a2.drewN _).set _ _).set _ _, a3.only (ho _ _) (by omega), a4.only (ho _ _) (by omega), a5.only (ho _ _) (by omega), ((ho _ _).cell M 7 (by omega)).trans p6, by rw [(ho _ _).size]; exact p7, p8.trans ((ho _ _).below (by omega))⟩
              simp [hsl]
            case measure => simp [intOf]; omega
          · have HP : Hid (_ ∧ _ ∧ _ ∧ _ ∧ _) := ⟨p1, p2, p3, p4, p5⟩
            obtain ⟨r, r1, r2, r3, r4⟩ := p1
            have c0 : wr.cell? ⟨w.heap.size, 0, none⟩ = some (.int .i64 N) := by rw [p4.cell]; rfl
            have c6 : wr.cell? ⟨M, 6, none⟩ = some (.int .i64 S) := by rw [r1.cell]; exact r3
            obtain ⟨v5, c5⟩ : ∃ v, wr.cell? ⟨M, 5, none⟩ = some v := ⟨r[5], by rw [r1.cell]; simp⟩
            have f5 := r1.frozen 5
            have hSp : S ≤ 9 := by omega
            have hNS : N * S ≤ 1024 * 9 := Nat.mul_le_mul hN2 hSp
            obtain ⟨NS, hNSe⟩ : ∃ NS, N * S = NS := ⟨_, rfl⟩
            have hNSI : (N : Int) * (S : Int) = (NS : Int) := by rw [← hNSe, Int.natCast_mul]
            obtain ⟨lc, hlc, hll⟩ : ∃ lc : List Value, madeCells (Value.pointer none).cells (NS * i56.size) = lc.toArray ∧ lc = List.replicate NS (.pointer none) := ⟨(madeCells (Value.pointer none).cells (NS * i56.size)).toList, by simp, by rw [hs56, Nat.mul_one]; exact toList_madeCells_one _ _⟩
            have hmk34 : ∀ V, (Instr.makeSlice 34 (.int .i64 (NS : Int)) (.int .i64 (NS : Int))).run Ybaf.prog V = .ok (.slice (some ⟨V.heap.size, 0, none⟩) NS NS) (V.alloc (.cells lc.toArray 56)) := fun V => by
              have := make_run 34 56 i56 _ NS Ybaf.underlying34 hi56 hz56 (by rw [hb56]; omega) (by unfold maxLen; omega) V
              rw [hlc] at this
              exact this
            have Hll : Hid _ := hll
            have HNS : Hid _ := hNSe
            have hwr : IntKind.i64.wrap ((NS : Nat) : Int) = (NS : Int) := by rw [IntKind.wrap_i64]; omega
            have hwr2 : wrap64 ((NS : Nat) : Int) = (NS : Int) := IntWalk.wrap64_in _ ⟨by omega, by omega⟩
            have hMr : M < wr.heap.size := r1.lt
            have hCr : w.heap.size < wr.heap.size := by omega
            clear p2 p3 p4 p5 r1 r3 hlc hll hNSe hsl
            go_wp2
            go_region
            obtain ⟨L, hL⟩ : ∃ L, wr.heap.size = L := ⟨_, rfl⟩
            rw [hL]
            generalize hW5 : (World.alloc (World.setCell wr _ _) _).drew = W5
            have HT : Hid (∃ r5, Row W5 M 51 r5 ∧ r5.length = 22 ∧ r5[5]? = some (.slice (some ⟨L, 0, none⟩) NS NS) ∧ r5[6]? = some (.int .i64 S) ∧ r5[8]? = some (.slice none 0 0) ∧ Row W5 L 56 lc ∧ Row W5 w.heap.size 32 [.int .i64 N, .int .i64 0] ∧ L < W5.heap.size ∧ Below w.heap.size w W5) := by
              obtain ⟨⟨r, r1, r2, r3, r4⟩, a2, a3, a4, a5⟩ := HP.out
              rw [← hW5]
              refine ⟨r.set 5 (.slice (some ⟨L, 0, none⟩) NS NS), (r1.set 5 _).alloc _, by simp [r2], by rw [List.getElem?_set_self (by omega)], by rw [List.getElem?_set_ne (by omega)]; exact r3, by rw [List.getElem?_set_ne (by omega)]; exact r4, Row.new _ 56 _ _ (by simp [World.setCell, hL]), (a4.setOther _ _ (by simp; omega)).alloc _, by simp [World.setCell]; omega, ((p8.setCell (by simp; omega) _).alloc (by simp [World.setCell]; omega) _).drew⟩
            rw [hL] at hMr hCr p7
            have hML : M ≠ L := by omega
            clear hW5 hL HP hmk34 c0 c6 c5 f5 p6 p8
            have hc0 : W5.cell? ⟨w.heap.size, 0, none⟩ = some (.int .i64 N) := by
              obtain ⟨_, _, _, _, _, _, _, h, _⟩ := HT.out
              rw [h.cell]; rfl
            go_upto_region 21 with (at_make; refine wpList_make_new _ rfl _ _ 34 rfl 56 i56 _ 1 Ybaf.underlying34 hi56 hz56 hs56 _ _ _ _ (2 * N) (2 * N) rfl rfl (by omega) (by omega) (Nat.le_refl _) (by rw [hb56]; omega) (by unfold maxLen; omega) ?_)
            intro w6 hsz6 hrow6 hbel6
            have HU : Hid (∃ r5, Row w6 M 51 r5 ∧ r5.length = 22 ∧ r5[5]? = some (.slice (some ⟨L, 0, none⟩) NS NS) ∧ r5[6]? = some (.int .i64 S) ∧ r5[8]? = some (.slice none 0 0) ∧ Row w6 L 56 lc ∧ Row w6 w.heap.size 32 [.int .i64 N, .int .i64 0] ∧ Below w.heap.size w w6) := by
              obtain ⟨r5, b1, b2, b3, b4, b5, b6, b7, b8, b9⟩ := HT.out
              exact ⟨r5, b1.below hbel6 b1.lt, b2, b3, b4, b5, b6.below hbel6 b8, b7.below hbel6 b7.lt, b9.trans (hbel6.mono b9.size)⟩
            have hd0 : w6.cell? ⟨w.heap.size, 0, none⟩ = some (.int .i64 N) := by
              obtain ⟨_, _, _, _, _, _, _, h, _⟩ := HU.out
              rw [h.cell]; rfl
            obtain ⟨v10, e10⟩ : ∃ v, w6.cell? ⟨M, 10, none⟩ = some v := by
              obtain ⟨r5, b1, b2, _⟩ := HU.out
              exact ⟨r5[10], by rw [b1.cell]; simp⟩
            obtain ⟨v11, e11⟩ : ∃ v, w6.cell? ⟨M, 11, none⟩ = some v := by
              obtain ⟨r5, b1, b2, _⟩ := HU.out
              exact ⟨r5[11], by rw [b1.cell]; simp⟩
            have g10 : w6.frozen? ⟨M, 10, none⟩ = false := by
              obtain ⟨r5, b1, _⟩ := HU.out
              exact b1.frozen 10
            have g11 : w6.frozen? ⟨M, 11, none⟩ = false := by
              obtain ⟨r5, b1, _⟩ := HU.out
              exact b1.frozen 11
            obtain ⟨WB, hWB⟩ : ∃ WB, W5.heap.size = WB := ⟨_, rfl⟩
            rw [hWB]
            have hN2I : (N : Int) ≤ ((2 * N : Nat) : Int) := by omega
            clear hsz6 hrow6 hbel6 HT hc0 hWB
            go_wp2
            go_region
            go_wp2
            go_ret2
            obtain ⟨r5, b1, b2, b3, b4, b5, b6, b7, b8⟩ := HU.out
            have ho : Only M w6 (((w6.setCell ⟨M, 10, none⟩ (.slice (some ⟨WB, 0, none⟩) 0 N)).setCell ⟨M, 11, none⟩ (.slice (some ⟨WB, N, none⟩) 0 (2 * N - N))).drew) := (((Only.refl _ _).setCell _ _).setCell _ _).drew
            refine ⟨M, L, S, (r5.set 10 (.slice (some ⟨WB, 0, none⟩) 0 N)).set 11 (.slice (some ⟨WB, N, none⟩) 0 (2 * N - N)), rfl, HSS.out.symm, (b1.set 10 _).set 11 _, by simp [b2], ?_, ?_, ?_, ?_, by omega, by omega, hML, b8.trans (ho.below (by omega))⟩
            · rw [List.getElem?_set_ne (by omega), List.getElem?_set_ne (by omega), HNS.out]; exact b3
            · rw [List.getElem?_set_ne (by omega), List.getElem?_set_ne (by omega)]; exact b4
            · rw [List.getElem?_set_ne (by omega), List.getElem?_set_ne (by omega)]; exact b5
            · rw [HNS.out, ← Hll.out]; exact b6.only ho (by omega)
end Lanes
end Go.Proofs.YbulkcrfgFmt
