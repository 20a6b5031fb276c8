/-
  LawS4647BPropose: newEchoBroadcast of a sound group.
-/
import Derived.Test.YbulkcrfgGreatFmtMap
import Derived.BigQuiet
import Derived.Deep.DeepCutAuto
import Derived.Deep.QuietTactic
import Derived.WalkSmall
import Derived.Deep.RegionHeld3
namespace Go.Proofs.YbulkcrfgGreatFmt
open Go.RowKit
namespace Propose
open Kit

/-- slices.Max of a row of positive numbers. -/
theorem max_any (b n : Nat) (f : Nat → Nat) (w : World) (hn : 1 ≤ n) (hn2 : n ≤ 8) (hf : ∀ i, f i ≤ 1000) (hc : ∀ i, i < n → w.cell? ⟨b, i, none⟩ = some (.int .i64 (f i))) :
    Calls Ybaz.prog 40 #[.slice (some ⟨b, 0, none⟩) n n] w fun e w' => ∃ m : Nat, e = .returned (.int .i64 m) ∧ (∀ i, i < n → f i ≤ m) ∧ (∃ i, i < n ∧ f i = m) ∧ w' = w := by
  have h0 := hc 0 (by omega)
  have d1 : decide ((n : Int) < 1) = false := by simp; omega
  have HC : Hid _ := hc
  have HF : Hid _ := hf
  clear hc hf
  go_enter Ybaz.func40, Ybaz.ntmps40
  go_wp2
  go_loop [3, 4] (fun v i => ∃ k m : Nat, 1 ≤ k ∧ k ≤ n ∧ i = .int .i64 k ∧ v = .int .i64 m ∧ (∀ i, i < k → f i ≤ m) ∧ (∃ i, i < k ∧ f i = m)) (fun _ i => n - (intOf i).toNat)
  case atStart =>
    refine ⟨1, f 0, by omega, hn, rfl, rfl, ?_, ⟨0, by omega, rfl⟩⟩
    intro i hi
    obtain rfl : i = 0 := by omega
    exact Nat.le_refl _
  case round =>
    obtain ⟨k, m, hk1, hk2, rfl, rfl, hall, hex⟩ := hrel
    have HA : Hid (_ ∧ _) := ⟨hall, hex⟩
    clear hall hex
    by_cases hlt : k < n
    · have hck := HC.out k hlt
      have hltI : (k : Int) < (n : Int) := by omega
      go_wp2
      go_round
      case rel =>
        obtain ⟨hall, i0, hi0, hx⟩ := HA.out
        by_cases hm : m < f k
        · refine ⟨k + 1, f k, by omega, by omega, by go_num, by congr 1; omega, ?_, ⟨k, by omega, rfl⟩⟩
          intro i hi
          by_cases e : i = k
          · subst e; exact Nat.le_refl _
          · have := hall i (by omega); omega
        · refine ⟨k + 1, m, by omega, by omega, by go_num, by congr 1; omega, ?_, ⟨i0, by omega, hx⟩⟩
          intro i hi
          by_cases e : i = k
          · subst e; omega
          · exact hall i (by omega)
      case measure => simp [intOf]; omega
    · go_wp2
      go_ret
      obtain rfl : k = n := by omega
      exact ⟨m, rfl, HA.out.1, HA.out.2, rfl⟩

theorem info44 : (Ybaz.prog.info? 4).map (fun i => (i.zero, i.size, i.bytes)) = some (some (.bool false), 1, 1) := by kernel_rfl

/-- newMailbox: a mailbox of n + 1 places. -/
theorem box_any (n : Nat) (hn : n ≤ 1024) (w : World) :
    Calls Ybaz.prog 39 #[.int .i64 n] w fun e w' => ∃ g, e = .returned (.agg #[.slice (some ⟨g, 0, none⟩) (n + 1) (n + 1), .slice none 0 0]) ∧ w.heap.size < w'.heap.size ∧ Below w.heap.size w w' := by
  obtain ⟨i4, hi4, hz4, hs4, hb4⟩ := info_parts info44
  go_enter Ybaz.func39, Ybaz.ntmps39
  go_wp2_with (at_make; refine wpList_make_new _ rfl _ _ 72 rfl 4 i4 _ 1 Ybaz.underlying72 hi4 hz4 hs4 _ _ _ _ (n + 1) (n + 1) rfl rfl (by omega) (by omega) (Nat.le_refl _) (by rw [hb4]; omega) (by unfold maxLen; omega) ?_)
  intro w2 hs hr hb
  have hr0 : Row w2 w.heap.size 98 [.slice none 0 0, .slice none 0 0] := (Row.new w 98 _ _ rfl).below hb (by omega)
  have c0 : w2.cell? ⟨w.heap.size, 0, none⟩ = some (.slice none 0 0) := by rw [hr0.cell]; rfl
  have c1 : w2.cell? ⟨w.heap.size, 1, none⟩ = some (.slice none 0 0) := by rw [hr0.cell]; rfl
  have f0 := hr0.frozen 0
  have f1 := hr0.frozen 1
  have HB : Hid (w.heap.size < w2.heap.size ∧ Below w.heap.size w w2) := ⟨by omega, ((Below.refl _ _).alloc (Nat.le_refl _) _).trans (hb.mono (by omega))⟩
  clear hs hr hb hr0
  go_wp2
  refine bodyPost_ret (v := .agg #[.slice (some ⟨w.heap.size + 1, 0, none⟩) (n + 1) (n + 1), .slice none 0 0]) ?_ rfl ⟨w.heap.size + 1, rfl, ?_, ?_⟩
  · simp [results, Ybaz.results39, go_sem, c0, c1]
  · have := HB.out.1; simp; omega
  · exact ((HB.out.2.setCell (by simp) _).setCell (by simp) _)
theorem info3 : (Ybaz.prog.info? 3).map (fun i => (i.zero, i.size, i.bytes)) = some (some (.int .i64 0), 1, 8) := by kernel_rfl
theorem info248 : (Ybaz.prog.info? 248).map (fun i => (i.zero, i.size, i.bytes)) = some (some (.pointer none), 1, 8) := by kernel_rfl
theorem info147 : (Ybaz.prog.info? 147).map (fun i => (i.zero, i.size, i.bytes)) = some (some (.agg #[.int .i64 0, .int .i64 0]), 2, 16) := by kernel_rfl
theorem info92 : (Ybaz.prog.info? 92).map (fun i => (i.zero, i.size, i.bytes)) = some (some (.slice none 0 0), 1, 24) := by kernel_rfl

/-- A make of n cells, as an equation for a region. -/
theorem make_run (t e : TypeId) (i : TypeInfo) (z : Value) (n : Nat) (h1 : Ybaz.prog.underlying t = some (.slice e)) (h2 : Ybaz.prog.info? e = some i) (h3 : i.zero = some z) (hb : i.bytes * n ≤ 281474976710656) (hn : n ≤ maxLen) (W : World) :
    (Instr.makeSlice t (.int .i64 n) (.int .i64 n)).run Ybaz.prog W = .ok (.slice (some ⟨W.heap.size, 0, none⟩) n n) (W.alloc (.cells (madeCells z.cells (n * i.size)) e)) := by
  have h63 : (n : Int) ≤ 9223372036854775807 := by unfold maxLen at hn; omega
  have hb' : (i.bytes : Int) * (n : Int) ≤ 281474976710656 := by
    have h : ((i.bytes * n : Nat) : Int) ≤ 281474976710656 := by omega
    rwa [Int.natCast_mul] at h
  have hrun := run_make (P := Ybaz.prog) W t e i z h1 h2 h3 .i64 .i64 n n (by omega) (by omega) hb' h63
  simpa only [Int.toNat_natCast] using hrun

structure MapE (w : World) (mb : Nat) : Prop where
  has : w.heap[mb]? = some (.map #[] 0)
theorem MapE.lt {w : World} {mb : Nat} (h : MapE w mb) : mb < w.heap.size := by
  by_cases hc : mb < w.heap.size
  · exact hc
  · have h := h.has
    rw [Array.getElem?_eq_none (by omega)] at h
    cases h
theorem MapE.of_block {w w' : World} {mb : Nat} (h : MapE w mb) (e : w'.heap[mb]? = w.heap[mb]?) : MapE w' mb := ⟨e.trans h.has⟩
theorem MapE.alloc {w : World} {mb : Nat} (h : MapE w mb) (o : Obj) : MapE (w.alloc o) mb := h.of_block (Below.heap_alloc w o mb h.lt)
theorem MapE.drew {w : World} {mb : Nat} (h : MapE w mb) : MapE w.drew mb := ⟨h.has⟩
theorem MapE.drewN {w : World} {mb : Nat} (h : MapE w mb) (n : Nat) : MapE (w.drewN n) mb := ⟨h.has⟩
theorem MapE.below {B : Nat} {w w' : World} {mb : Nat} (hb : Below B w w') (h : MapE w mb) (hB : mb < B) : MapE w' mb := h.of_block (hb.block mb hB)
theorem MapE.below3 {B : Nat} {w w' : World} {mb : Nat} (h : MapE w mb) (hb : Below B w w') (hB : mb < B) : MapE w' mb := h.of_block (hb.block mb hB)
theorem MapE.setOther {w : World} {mb : Nat} (h : MapE w mb) (a : Addr) (v : Value) (hne : mb ≠ a.block) : MapE (w.setCell a v) mb := h.of_block (Below.heap_setCell w a v mb hne)
theorem MapE.only {w w' : World} {mb x : Nat} (h : MapE w mb) (ho : Only x w w') (hne : mb ≠ x) : MapE w' mb := h.of_block (ho.block mb hne)
theorem MapE.new (w : World) (mb : Nat) (h : mb = w.heap.size) : MapE (w.alloc (.map #[] 0)) mb := ⟨by subst h; exact Array.getElem?_push_size⟩

theorem World.heap_alloc_size' (w : World) (o : Obj) : (w.alloc o).heap.size = w.heap.size + 1 := by simp
theorem World.drew_heap' (w : World) : w.drew.heap.size = w.heap.size := rfl

/-- Block M is a member whose lanesEach is S, whose started is 0 and whose starts is the map mb. -/
def MRow (w : World) (M S mb : Nat) : Prop := ∃ r, Row w M 100 r ∧ r.length = 22 ∧ r[6]? = some (.int .i64 S) ∧ r[3]? = some (.map (some mb)) ∧ r[4]? = some (.int .i64 0)
theorem MRow.set {w : World} {M S mb : Nat} (h : MRow w M S mb) (i : Nat) (v : Value) (h6 : i ≠ 6) (h3 : i ≠ 3) (h4 : i ≠ 4) : MRow (w.setCell ⟨M, i, none⟩ v) M S mb := by
  obtain ⟨r, k1, k2, k3, k4, k5⟩ := h
  exact ⟨r.set i v, k1.set i v, by simp [k2], by rw [List.getElem?_set_ne h6]; exact k3, by rw [List.getElem?_set_ne h3]; exact k4, by rw [List.getElem?_set_ne h4]; exact k5⟩
theorem MRow.other {w w' : World} {M S mb : Nat} (h : MRow w M S mb) (e : w'.heap[M]? = w.heap[M]?) : MRow w' M S mb := by
  obtain ⟨r, h1, h2⟩ := h
  exact ⟨r, h1.of_block e, h2⟩

theorem sum_le (q : Nat → Nat) (k : Nat) (h : ∀ i, q i ≤ 7) : ((List.range k).map q).sum ≤ 7 * k := by
  induction k with
  | zero => simp
  | succ k ih => rw [List.range_succ, List.map_append, List.sum_append]; simp; have := h k; omega
theorem sum_succ (q : Nat → Nat) (k : Nat) : ((List.range (k + 1)).map q).sum = ((List.range k).map q).sum + q k := by
  rw [List.range_succ, List.map_append, List.sum_append]; simp

/-- newMailbox beside a block C that is kept. -/
theorem box_keep (C N T : Nat) (hn : N ≤ 1024) (w : World) (h : w.cell? ⟨C, 0, none⟩ = some (.int .i64 N) ∧ w.cell? ⟨C, 1, none⟩ = some (.int .i64 T) ∧ C < w.heap.size) :
    Calls Ybaz.prog 39 #[.int .i64 N] w fun e w' => ∃ g, e = .returned (.agg #[.slice (some ⟨g, 0, none⟩) (N + 1) (N + 1), .slice none 0 0]) ∧ (w'.cell? ⟨C, 0, none⟩ = some (.int .i64 N) ∧ w'.cell? ⟨C, 1, none⟩ = some (.int .i64 T) ∧ C < w'.heap.size) ∧ C < w'.heap.size + 1 ∧ C < w'.heap.size + 1 + 1 ∧ Below w.heap.size w w' := by
  refine (box_any N hn w).mono ?_
  rintro e w' ⟨g, rfl, hs, hb⟩
  obtain ⟨h1, h2, h3⟩ := h
  exact ⟨g, rfl, ⟨(hb.cell h3).trans h1, (hb.cell h3).trans h2, by omega⟩, by omega, by omega, hb⟩

set_option maxHeartbeats 2000000 in
set_option maxRecDepth 20000 in
theorem newEcho (N T id b m0 n : Nat) (f q : Nat → Nat) (w : World) (hN : 1 ≤ N ∧ N ≤ 7) (hT : T < N) (hid : 1 ≤ id ∧ id ≤ N) (hn1 : 1 ≤ n) (hn3 : n ≤ 3) (hq : ∀ i, 1 ≤ q i ∧ q i ≤ 7) (hf : ∀ i, f i = n * q i)
    (hp : Row w b 3 ((List.range n).map fun i => .int .i64 (f i))) :
    Calls Ybaz.prog 16 #[cfg N T, num id, .slice (some ⟨b, 0, none⟩) n n, .func (.func 18) #[ptr m0] #[]] w fun e w' => ∃ M S mb, e = .returned (.tuple #[ptr M, .nilIface]) ∧
      MRow w' M S mb ∧ MapE w' mb ∧ w.heap.size ≤ M ∧ w.heap.size ≤ mb ∧ M ≠ mb ∧ Below w.heap.size w w' := by
  have hN1 := hN.1
  have hN2 := hN.2
  obtain ⟨i3, hi3, hz3, hs3, hb3⟩ := info_parts info3
  obtain ⟨i248, hi248, hz248, hs248, hb248⟩ := info_parts info248
  obtain ⟨i147, hi147, hz147, hs147, hb147⟩ := info_parts info147
  obtain ⟨i92, hi92, hz92, hs92, hb92⟩ := info_parts info92
  have Hq : Hid _ := hq
  have Hf : Hid _ := hf
  have Hp : Hid (Row w b 3 _) := hp
  have hbw : b < w.heap.size := hp.lt
  clear hq hf hp
  go_enter Ybaz.func16, Ybaz.ntmps16
  go_wp2_with fail
  refine (check_ok N T id hN hT hid _).mono ?_
  rintro e W ⟨rfl, hbk⟩
  have HW : Hid (Row W w.heap.size 45 [.int .i64 N, .int .i64 T] ∧ Row W b 3 ((List.range n).map fun i => .int .i64 (f i)) ∧ w.heap.size < W.heap.size ∧ Below w.heap.size w W) := by
    have hs := hbk.size
    rw [World.heap_alloc_size'] at hs
    exact ⟨(Row.new w 45 [.int .i64 N, .int .i64 T] _ rfl).below hbk (by rw [World.heap_alloc_size']; omega), (Hp.out.alloc _).below hbk (by rw [World.heap_alloc_size']; omega), by omega, ((Below.refl _ _).alloc (Nat.le_refl _) _).trans (hbk.mono (by rw [World.heap_alloc_size']; omega))⟩
  have cN : W.cell? ⟨w.heap.size, 0, none⟩ = some (.int .i64 N) := by rw [HW.out.1.cell]; rfl
  have cT : W.cell? ⟨w.heap.size, 1, none⟩ = some (.int .i64 T) := by rw [HW.out.1.cell]; rfl
  have hWs : w.heap.size < W.heap.size := HW.out.2.2.1
  have hWs1 : w.heap.size < W.heap.size + 1 := by omega
  have hWs2 : w.heap.size < W.heap.size + 1 + 1 := by omega
  clear hbk
  go_upto_region 4 with fail
  obtain ⟨mc, hmc⟩ : ∃ mc, madeCells (Value.slice none 0 0).cells ((N + 1) * i92.size) = mc := ⟨_, rfl⟩
  have hmk41 : ∀ V, (Instr.makeSlice 91 (.int .i64 ((N : Int) + 1)) (.int .i64 ((N : Int) + 1))).run Ybaz.prog V = .ok (.slice (some ⟨V.heap.size, 0, none⟩) (N + 1) (N + 1)) (V.alloc (.cells mc 92)) := fun V => by
    have := make_run 91 92 i92 _ (N + 1) Ybaz.underlying91 hi92 hz92 (by rw [hb92]; omega) (by unfold maxLen; omega) V
    rw [hmc] at this
    exact this
  have hmm := @run_makeMap Ybaz.prog
  have hwr : IntKind.i64.wrap ((N : Int) + 1) = (N : Int) + 1 := by rw [IntKind.wrap_i64]; omega
  go_cut [11] (fun v wx => ∃ M rc mb, v = ptr M ∧ Row wx M 100 rc ∧ rc.length = 22 ∧ rc[6]? = some (.int .i64 0) ∧ rc[3]? = some (.map (some mb)) ∧ rc[4]? = some (.int .i64 0) ∧ W.heap.size ≤ M ∧ MapE wx mb ∧ mb < M ∧ W.heap.size ≤ mb ∧ Below W.heap.size W wx)
  case first =>
    go_region_held3 (fun V => V.cell? ⟨w.heap.size, 0, none⟩ = some (.int .i64 N) ∧ V.cell? ⟨w.heap.size, 1, none⟩ = some (.int .i64 T) ∧ w.heap.size < V.heap.size) (first | assumption | (simp [*, World.cell?_alloc_past]; done) | (simp [*, World.cell?_alloc_past]; omega))
      (first | (go_at_call 39; refine (box_keep w.heap.size N T (by omega) _ ?_).mono ?_; (first | assumption | (simp [*, World.cell?_alloc_past]; done)); rintro e wb ⟨g, rfl, hsb, hsb1, hsb2, hbb⟩))
    all_goals
      go_wp2
      go_meet
      have hsz := hbb.size
      simp only [World.heap_alloc_size', World.drew_heap'] at hsz
      refine ⟨_, _, _, rfl, Row.new _ 100 _ _ (by simp), rfl, rfl, rfl, rfl, by omega, ?_, ?_, ?_, ?_⟩
      · repeat (first | with_reducible refine MapE.drew ?_ | (with_reducible refine MapE.new _ _ ?_; first | rfl | omega | (simp; done) | (simp; omega)) | with_reducible refine MapE.alloc ?_ _ | (with_reducible refine MapE.below hbb ?_ ?_; rotate_left; (simp only [World.heap_alloc_size', World.drew_heap']; omega)))
      · first | omega | (simp only [World.heap_alloc_size', World.drew_heap']; omega)
      · first | omega | (simp only [World.heap_alloc_size', World.drew_heap']; omega)
      repeat (first | exact Below.refl _ _ | refine Below.drew ?_ | refine Below.alloc ?_ (by first | omega | (simp; done) | (simp; omega)) _ | refine Below.trans ?_ (hbb.mono (by first | omega | (simp; done) | (simp; omega))))
  case rest =>
    obtain ⟨M, rc, mb, rfl, hR, hlen, h6, h3, h4, hM, hmE, hmM, hmW, hbc⟩ := hcut
    have HR : Hid (Row wc M 100 rc ∧ rc.length = 22 ∧ rc[6]? = some (.int .i64 0) ∧ (rc[3]? = some (.map (some mb)) ∧ rc[4]? = some (.int .i64 0)) ∧ MapE wc mb ∧ Row wc w.heap.size 45 [.int .i64 N, .int .i64 T] ∧ Row wc b 3 ((List.range n).map fun i => .int .i64 (f i)) ∧ Below w.heap.size w wc) := by
      obtain ⟨a1, a2, a3, a4⟩ := HW.out
      exact ⟨hR, hlen, h6, ⟨h3, h4⟩, hmE, a1.below hbc (by omega), a2.below hbc (by omega), a4.trans (hbc.mono (by omega))⟩
    have hMw : w.heap.size < M := by omega
    have hmw : w.heap.size < mb := by omega
    have hMc : M < wc.heap.size := hR.lt
    clear hR hlen h6 h3 h4 hmE hmW hbc hM HW hmk41 hmm hmc cN cT hWs hWs1 hWs2 hwr
    obtain ⟨pc, hpc, hpl⟩ : ∃ pc : List Value, madeCells (Value.int .i64 0).cells (n * i3.size) = pc.toArray ∧ pc.length = n := ⟨(madeCells (Value.int .i64 0).cells (n * i3.size)).toList, by simp, by simp [size_madeCells, hs3]⟩
    have hmk25 : ∀ V, (Instr.makeSlice 27 (.int .i64 (n : Int)) (.int .i64 (n : Int))).run Ybaz.prog V = .ok (.slice (some ⟨V.heap.size, 0, none⟩) n n) (V.alloc (.cells pc.toArray 3)) := fun V => by
      have := make_run 27 3 i3 _ n Ybaz.underlying27 hi3 hz3 (by rw [hb3]; omega) (by unfold maxLen; omega) V
      rw [hpc] at this
      exact this
    unfold ptr
    go_wp2_with fail
    go_region
    obtain ⟨FL, hFL⟩ : ∃ FL, wc.heap.size = FL := ⟨_, rfl⟩
    rw [hFL]
    generalize hW2 : (World.alloc wc _).drew = W2
    have HS : Hid (Row W2 M 100 (rc.set 6 (.int .i64 ((0 : Nat) : Int))) ∧ Row W2 FL 3 pc ∧ MapE W2 mb ∧ Row W2 w.heap.size 45 [.int .i64 N, .int .i64 T] ∧ Row W2 b 3 ((List.range n).map fun i => .int .i64 (f i)) ∧ FL < W2.heap.size ∧ Below w.heap.size w W2) := by
      obtain ⟨a1, a2, a3, a4, aE, a5, a6, a7⟩ := HR.out
      rw [← hW2]
      have e : rc.set 6 (.int .i64 ((0 : Nat) : Int)) = rc := by
        apply List.ext_getElem?
        intro j
        by_cases hj : j = 6
        · subst hj; rw [List.getElem?_set_self (by omega), a3]; rfl
        · rw [List.getElem?_set_ne (by omega)]
      rw [e]
      exact ⟨a1.alloc _, Row.new _ 3 _ _ hFL.symm, (aE.alloc _).drew, a5.alloc _, a6.alloc _, by simp; omega, (a7.alloc (by omega) _).drew⟩
    rw [hFL] at hMc
    have hrl : rc.length = 22 := HR.out.2.1
    have hr8 : rc[3]? = some (.map (some mb)) ∧ rc[4]? = some (.int .i64 0) := HR.out.2.2.2.1
    have Hr8 : Hid _ := hr8
    clear hW2 hFL HR hmk25 hpc hr8
    go_wp2
    go_loopw [46] (fun i wr => ∃ (k : Nat) (fl : List Value), k ≤ n ∧ i = .int .i64 k ∧ Row wr M 100 (rc.set 6 (.int .i64 (((List.range k).map q).sum : Nat))) ∧ Row wr FL 3 fl ∧ fl.length = n ∧ (∀ j, j < k → ∃ x : Nat, fl[j]? = some (.int .i64 x) ∧ x ≤ 21) ∧ MapE wr mb ∧ Row wr w.heap.size 45 [.int .i64 N, .int .i64 T] ∧ Row wr b 3 ((List.range n).map fun i => .int .i64 (f i)) ∧ FL < wr.heap.size ∧ Below w.heap.size w wr) (fun i _ => n - (intOf i).toNat)
    case atStart =>
      obtain ⟨a1, a2, aE, a3, a4, a5, a6⟩ := HS.out
      exact ⟨0, pc, Nat.zero_le _, rfl, a1, a2, hpl, fun j hj => by omega, aE, a3, a4, a5, a6⟩
    case round =>
      obtain ⟨k, fl, hk, rfl, q1, q2, hfl, q3, qE, q4, q5, q6, q7⟩ := hrel
      obtain ⟨S, hS⟩ : ∃ S, ((List.range k).map q).sum = S := ⟨_, rfl⟩
      have hS9 : S ≤ 7 * k := by rw [← hS]; exact sum_le q k (fun i => (Hq.out i).2)
      rw [hS] at q1
      have HX : Hid (_ ∧ _ ∧ _ ∧ _ ∧ _ ∧ _) := ⟨q1, q2, q3, qE, q4, q5⟩
      have HSS : Hid _ := hS
      have c6 : wr.cell? ⟨M, 6, none⟩ = some (.int .i64 S) := by rw [q1.cell, List.getElem?_set_self (by omega)]
      have f6 := q1.frozen 6
      clear hS q3 q4 qE
      by_cases hlt : k < n
      · have hltI : (k : Int) < (n : Int) := by omega
        obtain ⟨fk, hfk⟩ : ∃ fk, f k = fk := ⟨_, rfl⟩
        have cp : wr.cell? ⟨b, k, none⟩ = some (.int .i64 fk) := by rw [q5.cell]; simp [hlt, hfk]
        have cF : wr.cell? ⟨FL, k, none⟩ = some fl[k] := by rw [q2.cell]; simp
        have fF := q2.frozen k
        have hdiv : (fk : Int) / (n : Int) = (q k : Int) := by
          rw [← hfk, Hf.out k, Int.natCast_mul, Int.mul_ediv_cancel_left _ (by omega)]
        have hfk0 : fk ≤ 21 := by
          have h1 := (Hq.out k).2
          have h2 := Hf.out k
          have h3 : n * q k ≤ 3 * 7 := Nat.mul_le_mul hn3 h1
          omega
        have hqk := Hq.out k
        clear q1 q2 q5 hfk
        go_wp2_with fail
        generalize hV : World.setCell wr _ _ = V
        have HV : Hid (Row V M 100 (rc.set 6 (.int .i64 S)) ∧ Row V FL 3 (fl.set k (.int .i64 S)) ∧ MapE V mb ∧ Row V w.heap.size 45 [.int .i64 N, .int .i64 T] ∧ Row V b 3 ((List.range n).map fun i => .int .i64 (f i)) ∧ V.heap.size = wr.heap.size ∧ Below w.heap.size w V) := by
          obtain ⟨a1, a2, a3, aE, a4, a5⟩ := HX.out
          rw [← hV]
          exact ⟨a1.setOther _ _ (by simp; omega), a2.set k _, aE.setOther _ _ (by simp; omega), a4.setOther _ _ (by simp; omega), a5.setOther _ _ (by simp; omega), by simp [World.setCell], q7.setCell (by simp; omega) _⟩
        have d6 : V.cell? ⟨M, 6, none⟩ = some (.int .i64 S) := by rw [HV.out.1.cell, List.getElem?_set_self (by omega)]
        have g6 := HV.out.1.frozen 6
        clear hV c6 f6 cF fF cp
        have hdt : (fk : Int).tdiv (n : Int) = (q k : Int) := by rw [Int.tdiv_eq_ediv_of_nonneg (by omega)]; exact hdiv
        go_region
        go_wp2
        go_roundw
        case rel =>
          obtain ⟨a1, a2, aE, a3, a4, a5, a6⟩ := HV.out
          have hx := HX.out.2.2.1
          refine ⟨k + 1, fl.set k (.int .i64 S), by omega, by go_num, ?_, a2.setOther _ _ (by simp; omega), by simp [hfl], ?_, (aE.setOther _ _ (by simp; omega)).drew, a3.setOther _ _ (by simp; omega), a4.setOther _ _ (by simp; omega), by simp; omega, ?_⟩
          · rw [sum_succ, HSS.out]
            have := a1.set 6 (.int .i64 ((S + q k : Nat) : Int))
            rw [List.set_set] at this
            simp only [Int.natCast_add] at this ⊢
            exact this
          · intro j hj
            by_cases e : j = k
            · subst e; exact ⟨S, by rw [List.getElem?_set_self (by omega)], by omega⟩
            · rw [List.getElem?_set_ne (by omega)]; exact hx j (by omega)
          · exact (a6.setCell (by simp; omega) _).drew
        case measure => simp [intOf]; omega
      · obtain rfl : k = n := by omega
        have hfb : ∀ i, f i ≤ 21 := by
          intro i
          have h1 := (Hq.out i).2
          have h2 := Hf.out i
          have h3 : k * q i ≤ 3 * 7 := Nat.mul_le_mul hn3 h1
          omega
        have hfp : ∀ i, 1 ≤ f i := by
          intro i
          have h1 := (Hq.out i).1
          have h2 := Hf.out i
          have h3 : 1 * 1 ≤ k * q i := Nat.mul_le_mul hn1 h1
          omega
        have Hfb : Hid (_ ∧ _) := ⟨hfb, hfp⟩
        have hcp : ∀ i, i < k → wr.cell? ⟨b, i, none⟩ = some (.int .i64 (f i)) := fun i hi => by rw [q5.cell]; simp [hi]
        have Hcp : Hid _ := hcp
        clear hfb hfp hcp q1 q2 q5 hlt hk
        go_wp2_with fail
        refine (max_any b k f wr hn1 (by omega) (fun i => by have := Hfb.out.1 i; omega) Hcp.out).mono ?_
        rintro e wm ⟨mx, rfl, hmx1, ⟨im, him, hmx2⟩, rfl⟩
        have hmx : 1 ≤ mx ∧ mx ≤ 21 := by have h1 := Hfb.out.1 im; have h2 := Hfb.out.2 im; omega
        clear hmx1 hmx2 him
        have c7 : ∃ v, wm.cell? ⟨M, 7, none⟩ = some v := ⟨_, by rw [HX.out.1.cell, List.getElem?_set_ne (by omega), List.getElem?_eq_getElem (by omega)]⟩
        obtain ⟨v7, c7⟩ := c7
        have f7 := HX.out.1.frozen 7
        clear c6 f6
        go_upto_region 13 with (at_make; refine wpList_make_new _ rfl _ _ 85 rfl 147 i147 _ 2 Ybaz.underlying85 hi147 hz147 hs147 _ _ _ _ mx mx rfl rfl rfl rfl (Nat.le_refl _) (by rw [hb147]; omega) (by unfold maxLen; omega) ?_)
        intro w3 hsz3 hrow3 hbel3
        obtain ⟨SL, hSL⟩ : ∃ SL, wm.heap.size = SL := ⟨_, rfl⟩
        rw [hSL] at hsz3 hrow3 hbel3 ⊢
        obtain ⟨sl0, hsl0, hr3⟩ : ∃ x0 : List Value, x0.length = mx * 2 ∧ Row w3 SL 147 x0 := ⟨_, by simp [size_madeCells], hrow3⟩
        have hFS : FL < SL := by omega
        have HY : Hid (MRow w3 M S mb ∧ MapE w3 mb ∧ Row w3 SL 147 sl0 ∧ Row w3 FL 3 fl ∧ Row w3 w.heap.size 45 [.int .i64 N, .int .i64 T] ∧ Row w3 b 3 ((List.range k).map fun i => .int .i64 (f i)) ∧ SL < w3.heap.size ∧ Below w.heap.size w w3) := by
          obtain ⟨a1, a2, a3, aE, a4, a5⟩ := HX.out
          exact ⟨⟨_, a1.below hbel3 (by omega), by simp [hrl], by rw [List.getElem?_set_self (by omega)], by rw [List.getElem?_set_ne (by omega)]; exact Hr8.out.1, by rw [List.getElem?_set_ne (by omega)]; exact Hr8.out.2⟩, aE.below3 hbel3 (by omega), hr3, a2.below hbel3 (by omega), a4.below hbel3 (by omega), a5.below hbel3 (by omega), by omega, q7.trans (hbel3.mono (by omega))⟩
        have hx9 : ∀ j, j < k → ∃ x : Nat, fl[j]? = some (.int .i64 x) ∧ x ≤ 21 := HX.out.2.2.1
        have Hx9 : Hid _ := hx9
        have d7 : w3.cell? ⟨M, 7, none⟩ = some v7 := (hbel3.cell (by simp; omega)).trans c7
        have e7 : w3.frozen? ⟨M, 7, none⟩ = false := (hbel3.frozen (by simp; omega)).trans f7
        clear hsz3 hrow3 hbel3 hSL HX c7 f7 hr3 hx9 q6 q7 Hcp
        go_wp2
        go_loopw [80] (fun i wr => ∃ (t : Nat) (sl : List Value), t ≤ mx ∧ i = .int .i64 t ∧ sl.length = mx * 2 ∧ MRow wr M S mb ∧ MapE wr mb ∧ Row wr SL 147 sl ∧ Row wr FL 3 fl ∧ Row wr w.heap.size 45 [.int .i64 N, .int .i64 T] ∧ Row wr b 3 ((List.range k).map fun i => .int .i64 (f i)) ∧ wr.cell? ⟨M, 7, none⟩ = some (.slice (some ⟨SL, 0, none⟩) mx mx) ∧ SL < wr.heap.size ∧ Below w.heap.size w wr) (fun i _ => mx - (intOf i).toNat)
        case atStart =>
          obtain ⟨a1, aE, a2, a3, a4, a5, a6, a7⟩ := HY.out
          exact ⟨0, sl0, Nat.zero_le _, rfl, hsl0, a1.set 7 _ (by omega) (by omega) (by omega), aE.setOther _ _ (by simp; omega), a2.setOther _ _ (by simp; omega), a3.setOther _ _ (by simp; omega), a4.setOther _ _ (by simp; omega), a5.setOther _ _ (by simp; omega), World.cell?_setCell_same _ _ _ d7, by simp; omega, a7.setCell (by simp; omega) _⟩
        case round =>
          clear HY d7 e7 hsl0
          obtain ⟨t, sl, ht, rfl, hsl, p1, pE, p2, p3, p4, p5, p6, p7, p8⟩ := hrel
          by_cases hlt : t < mx
          · have hltI : (t : Int) < (mx : Int) := by omega
            have htk : t % k < k := Nat.mod_lt _ (by omega)
            obtain ⟨fc, hfc⟩ : ∃ fc, f (t % k) = fc := ⟨_, rfl⟩
            obtain ⟨x, hx, hx9⟩ := Hx9.out (t % k) htk
            have cb : wr.cell? ⟨b, t % k, none⟩ = some (.int .i64 fc) := by rw [p5.cell]; simp [htk, hfc]
            have cf : wr.cell? ⟨FL, t % k, none⟩ = some (.int .i64 x) := by rw [p3.cell]; exact hx
            have hfc1 : 1 ≤ fc ∧ fc ≤ 21 := by have h1 := Hfb.out.1 (t % k); have h2 := Hfb.out.2 (t % k); omega
            obtain ⟨y0, cy0⟩ : ∃ y, wr.cell? ⟨SL, t * 2, none⟩ = some y := ⟨sl[t * 2], by rw [p2.cell]; simp⟩
            obtain ⟨y1, cy1⟩ : ∃ y, wr.cell? ⟨SL, t * 2 + 1, none⟩ = some y := ⟨sl[t * 2 + 1], by rw [p2.cell]; simp⟩
            have fy0 := p2.frozen (t * 2)
            have fy1 := p2.frozen (t * 2 + 1)
            have HP : Hid (_ ∧ _ ∧ _ ∧ _ ∧ _ ∧ _) := ⟨p1, pE, p2, p3, p4, p5⟩
            have hzk : ((k : Int) == 0) = false := by simp; omega
            have hzf : ((fc : Int) == 0) = false := by simp; omega
            have htkI : ((t : Int) % (k : Int)) < (k : Int) := by omega
            have htkJ : 0 ≤ ((t : Int) % (k : Int)) := by omega
            clear p1 pE p2 p3 p4 p5 hfc hx
            go_wp2
            go_quiet (fail)
            go_wp2
            go_region
            go_wp2
            go_roundw
            case rel =>
              obtain ⟨a1, aE, a2, a3, a4, a5⟩ := HP.out
              have ho : ∀ u v : Value, Only SL wr (((wr.drewN (nq + 1)).setCell ⟨SL, t * 2, none⟩ u).setCell ⟨SL, t * 2 + 1, none⟩ v) := fun u v => (((Only.refl _ _).drewN _).setCell _ _).setCell _ _
              refine ⟨t + 1, _, by omega, by go_num, ?_, a1.other ((ho _ _).block M (by omega)), aE.only (ho _ _) (by omega), ((a2.drewN _).set _ _).set _ _, a3.only (ho _ _) (by omega), a4.only (ho _ _) (by omega), a5.only (ho _ _) (by omega), ((ho _ _).cell M 7 (by omega)).trans p6, by rw [(ho _ _).size]; exact p7, p8.trans ((ho _ _).below (by omega))⟩
              simp [hsl]
            case measure => simp [intOf]; omega
          · have HP : Hid (_ ∧ _ ∧ _ ∧ _ ∧ _ ∧ _) := ⟨p1, pE, p2, p3, p4, p5⟩
            obtain ⟨r, r1, r2, r3, r4, r4b⟩ := p1
            have c0 : wr.cell? ⟨w.heap.size, 0, none⟩ = some (.int .i64 N) := by rw [p4.cell]; rfl
            have c6 : wr.cell? ⟨M, 6, none⟩ = some (.int .i64 S) := by rw [r1.cell]; exact r3
            obtain ⟨v5, c5⟩ : ∃ v, wr.cell? ⟨M, 5, none⟩ = some v := ⟨r[5], by rw [r1.cell]; simp⟩
            have f5 := r1.frozen 5
            have hSp : S ≤ 21 := by omega
            have hNS : N * S ≤ 7 * 21 := Nat.mul_le_mul hN2 hSp
            obtain ⟨NS, hNSe⟩ : ∃ NS, N * S = NS := ⟨_, rfl⟩
            have hNSI : (N : Int) * (S : Int) = (NS : Int) := by rw [← hNSe, Int.natCast_mul]
            obtain ⟨lc, hlc, hll⟩ : ∃ lc : List Value, madeCells (Value.pointer none).cells (NS * i248.size) = lc.toArray ∧ lc = List.replicate NS (.pointer none) := ⟨(madeCells (Value.pointer none).cells (NS * i248.size)).toList, by simp, by rw [hs248, Nat.mul_one]; exact toList_madeCells_one _ _⟩
            have hmk34 : ∀ V, (Instr.makeSlice 84 (.int .i64 (NS : Int)) (.int .i64 (NS : Int))).run Ybaz.prog V = .ok (.slice (some ⟨V.heap.size, 0, none⟩) NS NS) (V.alloc (.cells lc.toArray 248)) := fun V => by
              have := make_run 84 248 i248 _ NS Ybaz.underlying84 hi248 hz248 (by rw [hb248]; omega) (by unfold maxLen; omega) V
              rw [hlc] at this
              exact this
            have hwr : IntKind.i64.wrap ((NS : Nat) : Int) = (NS : Int) := by rw [IntKind.wrap_i64]; omega
            have hwr2 : wrap64 ((NS : Nat) : Int) = (NS : Int) := IntWalk.wrap64_in _ ⟨by omega, by omega⟩
            have hMr : M < wr.heap.size := r1.lt
            have hCr : w.heap.size < wr.heap.size := by omega
            clear p2 pE p3 p4 p5 r1 r3 r4 r4b hlc hll hNSe hsl
            go_wp2
            go_region
            obtain ⟨L, hL⟩ : ∃ L, wr.heap.size = L := ⟨_, rfl⟩
            rw [hL]
            generalize hW5 : (World.alloc (World.setCell wr _ _) _).drew = W5
            have HT : Hid (MRow W5 M S mb ∧ MapE W5 mb ∧ Row W5 w.heap.size 45 [.int .i64 N, .int .i64 T] ∧ L < W5.heap.size ∧ Below w.heap.size w W5) := by
              obtain ⟨a1, aE, a2, a3, a4, a5⟩ := HP.out
              rw [← hW5]
              have hm := (a1.set 5 (.slice (some ⟨L, 0, none⟩) NS NS) (by omega) (by omega) (by omega)).other (Below.heap_alloc _ (.cells lc.toArray 248) M (by simp [World.setCell]; omega))
              exact ⟨hm, ((aE.setOther _ _ (by simp; omega)).alloc _).drew, (a4.setOther _ _ (by simp; omega)).alloc _, by simp [World.setCell]; omega, ((p8.setCell (by simp; omega) _).alloc (by simp [World.setCell]; omega) _).drew⟩
            rw [hL] at hMr hCr p7
            clear hW5 hL HP hmk34 c0 c6 c5 f5 p6 p8
            have hc0 : W5.cell? ⟨w.heap.size, 0, none⟩ = some (.int .i64 N) := by rw [HT.out.2.2.1.cell]; rfl
            go_upto_region 21 with (at_make; refine wpList_make_new _ rfl _ _ 84 rfl 248 i248 _ 1 Ybaz.underlying84 hi248 hz248 hs248 _ _ _ _ (2 * N) (2 * N) rfl rfl (by omega) (by omega) (Nat.le_refl _) (by rw [hb248]; omega) (by unfold maxLen; omega) ?_)
            intro w6 hsz6 hrow6 hbel6
            have HU : Hid (MRow w6 M S mb ∧ MapE w6 mb ∧ Row w6 w.heap.size 45 [.int .i64 N, .int .i64 T] ∧ Below w.heap.size w w6) := by
              obtain ⟨b1, bE, b7, b8, b9⟩ := HT.out
              exact ⟨b1.other (hbel6.block M (by omega)), bE.below3 hbel6 bE.lt, b7.below hbel6 b7.lt, b9.trans (hbel6.mono b9.size)⟩
            have hd0 : w6.cell? ⟨w.heap.size, 0, none⟩ = some (.int .i64 N) := by rw [HU.out.2.2.1.cell]; rfl
            obtain ⟨v10, e10⟩ : ∃ v, w6.cell? ⟨M, 10, none⟩ = some v := by
              obtain ⟨r5, b1, b2, _⟩ := HU.out.1
              exact ⟨r5[10], by rw [b1.cell]; simp⟩
            obtain ⟨v11, e11⟩ : ∃ v, w6.cell? ⟨M, 11, none⟩ = some v := by
              obtain ⟨r5, b1, b2, _⟩ := HU.out.1
              exact ⟨r5[11], by rw [b1.cell]; simp⟩
            have g10 : w6.frozen? ⟨M, 10, none⟩ = false := by
              obtain ⟨r5, b1, _⟩ := HU.out.1
              exact b1.frozen 10
            have g11 : w6.frozen? ⟨M, 11, none⟩ = false := by
              obtain ⟨r5, b1, _⟩ := HU.out.1
              exact b1.frozen 11
            obtain ⟨WB, hWB⟩ : ∃ WB, W5.heap.size = WB := ⟨_, rfl⟩
            rw [hWB]
            have hN2I : (N : Int) ≤ ((2 * N : Nat) : Int) := by omega
            clear hsz6 hrow6 hbel6 HT hc0 hWB
            go_wp2
            go_region
            go_wp2
            go_ret2
            obtain ⟨b1, bE, b7, b8⟩ := HU.out
            have ho : Only M w6 (((w6.setCell ⟨M, 10, none⟩ (.slice (some ⟨WB, 0, none⟩) 0 N)).setCell ⟨M, 11, none⟩ (.slice (some ⟨WB, N, none⟩) 0 (2 * N - N))).drew) := (((Only.refl _ _).setCell _ _).setCell _ _).drew
            exact ⟨M, S, mb, rfl, (b1.set 10 _ (by omega) (by omega) (by omega)).set 11 _ (by omega) (by omega) (by omega), bE.only ho (by omega), by omega, by omega, by omega, b8.trans (ho.below (by omega))⟩
end Propose
end Go.Proofs.YbulkcrfgGreatFmt
