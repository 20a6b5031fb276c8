/-
  LawS4647BPropose: echoPeriods, newMailbox, newMemberSet, newProperSet.
-/
import Derived.Test.YbulkcrfgGreatFmtNewB
namespace Go.Proofs.YbulkcrfgGreatFmt
open Go.RowKit
namespace Propose
open Kit

theorem keepD {w : World} {a : Addr} {v : Value} (h : w.cell? a = some v) : w.drew.cell? a = some v := h
theorem keepA {w : World} {a : Addr} {v : Value} {o : Obj} (h : w.cell? a = some v) : (w.alloc o).cell? a = some v := (World.cell?_alloc_some w a o (by rw [h]; rfl)).trans h
structure RowS (w : World) (g : Nat) (t : TypeId) (cs : List Value) : Prop where
  has : Row w g t cs
theorem RowS.drew {w : World} {g : Nat} {t : TypeId} {cs : List Value} (h : RowS w g t cs) : RowS w.drew g t cs := ⟨h.has⟩
theorem RowS.alloc {w : World} {g : Nat} {t : TypeId} {cs : List Value} (h : RowS w g t cs) (o : Obj) : RowS (w.alloc o) g t cs := ⟨h.has.alloc o⟩
theorem RowS.new (w : World) (t : TypeId) (cs : List Value) (g : Nat) (hg : g = w.heap.size) : RowS (w.alloc (.cells cs.toArray t)) g t cs := ⟨Row.new w t cs g hg⟩
theorem info246 : (Ybaz.prog.info? 246).map (fun i => (i.zero, i.size, i.bytes)) = some (some (.agg #[.slice none 0 0, .bool false, .slice none 0 0]), 3, 56) := by kernel_rfl

set_option maxRecDepth 20000 in
theorem periods_ok (N T : Nat) (hN : N ≤ 7) (w : World) :
    Calls Ybaz.prog 17 #[cfg N T] w fun e w' => ∃ b, e = .returned (.slice (some ⟨b, 0, none⟩) 3 3) ∧ Row w' b 3 [.int .i64 3, num (3 * N), .int .i64 3] ∧ w.heap.size ≤ b ∧ Below w.heap.size w w' := by
  have e1 : (N : Int) * 3 = ((3 * N : Nat) : Int) := by omega
  have e2 : IntKind.i64.wrap ((3 * N : Nat) : Int) = ((3 * N : Nat) : Int) := by rw [IntKind.wrap_i64]; omega
  go_enter Ybaz.func17, Ybaz.ntmps17
  go_wp2_with fail
  go_ret
  refine ⟨_, rfl, Row.new _ 3 _ _ (by simp), by simp, ((Below.refl _ _).alloc (Nat.le_refl _) _).alloc (by simp) _⟩

set_option maxRecDepth 20000 in
theorem mset_ok (N : Nat) (hN : N ≤ 7) (w : World) :
    Calls Ybaz.prog 20 #[num N] w fun e w' => e = .returned (.agg #[.int .u64 0, .slice none 0 0]) ∧ Below w.heap.size w w' := by
  have d1 : decide ((N : Int) ≤ 64) = true := by simp; omega
  go_enter Ybaz.func20, Ybaz.ntmps20
  go_wp2_with fail
  refine bodyPost_ret (v := .agg #[.int .u64 0, .slice none 0 0]) ?_ rfl ⟨rfl, ?_⟩
  · simp [results, Ybaz.results20, go_sem]
  · exact (Below.refl _ _).alloc (Nat.le_refl _) _

set_option maxRecDepth 20000 in
/-- newMailbox: a mailbox of n + 1 places. -/
theorem box22 (n : Nat) (hn : n ≤ 1024) (w : World) :
    Calls Ybaz.prog 22 #[.int .i64 n] w fun e w' => ∃ g, e = .returned (.agg #[.slice (some ⟨g, 0, none⟩) (n + 1) (n + 1), .slice none 0 0]) ∧ w.heap.size < w'.heap.size ∧ Below w.heap.size w w' := by
  obtain ⟨i4, hi4, hz4, hs4, hb4⟩ := info_parts info44
  go_enter Ybaz.func22, Ybaz.ntmps22
  go_wp2_with (at_make; refine wpList_make_new _ rfl _ _ 72 rfl 4 i4 _ 1 Ybaz.underlying72 hi4 hz4 hs4 _ _ _ _ (n + 1) (n + 1) rfl rfl (by omega) (by omega) (Nat.le_refl _) (by rw [hb4]; omega) (by unfold maxLen; omega) ?_)
  intro w2 hs hr hb
  have hr0 : Row w2 w.heap.size 75 [.slice none 0 0, .slice none 0 0] := (Row.new w 75 _ _ rfl).below hb (by omega)
  have c0 : w2.cell? ⟨w.heap.size, 0, none⟩ = some (.slice none 0 0) := by rw [hr0.cell]; rfl
  have c1 : w2.cell? ⟨w.heap.size, 1, none⟩ = some (.slice none 0 0) := by rw [hr0.cell]; rfl
  have f0 := hr0.frozen 0
  have f1 := hr0.frozen 1
  have HB : Hid (w.heap.size < w2.heap.size ∧ Below w.heap.size w w2) := ⟨by omega, ((Below.refl _ _).alloc (Nat.le_refl _) _).trans (hb.mono (by omega))⟩
  clear hs hr hb hr0
  go_wp2
  refine bodyPost_ret (v := .agg #[.slice (some ⟨w.heap.size + 1, 0, none⟩) (n + 1) (n + 1), .slice none 0 0]) ?_ rfl ⟨w.heap.size + 1, rfl, ?_, ?_⟩
  · simp [results, Ybaz.results22, go_sem, c0, c1]
  · have := HB.out.1; simp; omega
  · exact ((HB.out.2.setCell (by simp) _).setCell (by simp) _)

/-- A member's properSet with the one value s in block g. -/
abbrev prop58 (N T a b g : Nat) : List Value := [num N, num T, .slice (some ⟨a, 0, none⟩) (N + 1) (N + 1), .slice (some ⟨b, 0, none⟩) (N + 1) (N + 1), .bool false, .slice (some ⟨g, 0, none⟩) 1 1, .bool false]
set_option maxRecDepth 20000 in
set_option maxHeartbeats 2000000 in
theorem proper_ok (N T id : Nat) (s : ByteArray) (hN : 1 ≤ N ∧ N ≤ 7) (hid : 1 ≤ id ∧ id ≤ N) (w : World) :
    Calls Ybaz.prog 21 #[cfg N T, num id, .string s] w fun e w' => ∃ a b g, e = .returned (.agg (prop58 N T a b g).toArray) ∧ Row w' g 9 [.string s] ∧ w.heap.size ≤ g ∧ Below w.heap.size w w' := by
  obtain ⟨i9, hi9, hz9, hs9, hb9⟩ := info_parts Ybaz.info9
  obtain ⟨i246, hi246, hz246, hs246, hb246⟩ := info_parts info246
  have hwr : IntKind.i64.wrap ((N : Int) + 1) = (N : Int) + 1 := by rw [IntKind.wrap_i64]; omega
  obtain ⟨mc, hmc⟩ : ∃ mc, madeCells (Value.agg #[.slice none 0 0, .bool false, .slice none 0 0]).cells ((N + 1) * i246.size) = mc := ⟨_, rfl⟩
  have hmk55 : ∀ V, (Instr.makeSlice 55 (.int .i64 ((N : Int) + 1)) (.int .i64 ((N : Int) + 1))).run Ybaz.prog V = .ok (.slice (some ⟨V.heap.size, 0, none⟩) (N + 1) (N + 1)) (V.alloc (.cells mc 246)) := fun V => by
    have := make_run 55 246 i246 _ (N + 1) Ybaz.underlying55 hi246 hz246 (by rw [hb246]; omega) (by unfold maxLen; omega) V
    rw [hmc] at this
    exact this
  obtain ⟨mi, hmi⟩ : ∃ mi : List Value, mi = List.replicate (N + 1) (.string ⟨#[]⟩) := ⟨_, rfl⟩
  have hmk56 : ∀ V, (Instr.makeSlice 56 (.int .i64 ((N : Int) + 1)) (.int .i64 ((N : Int) + 1))).run Ybaz.prog V = .ok (.slice (some ⟨V.heap.size, 0, none⟩) (N + 1) (N + 1)) (V.alloc (.cells mi.toArray 9)) := fun V => by
    have := make_run 56 9 i9 _ (N + 1) Ybaz.underlying56 hi9 hz9 (by rw [hb9]; omega) (by unfold maxLen; omega) V
    rw [hs9, Nat.mul_one] at this
    have e : (madeCells (Value.string ⟨#[]⟩).cells (N + 1)) = mi.toArray := by rw [hmi, ← toList_madeCells_one]; simp; rfl
    rw [e] at this
    exact this
  have hml : mi.length = N + 1 := by rw [hmi]; simp
  clear hmc hmi
  go_enter Ybaz.func21, Ybaz.ntmps21
  go_upto_region 1 with fail
  generalize hW : World.alloc (World.alloc w _) _ = W
  have HW : Hid (Row W w.heap.size 45 [.int .i64 N, .int .i64 T] ∧ Row W (w.heap.size + 1) 58 [.int .i64 0, .int .i64 0, .slice none 0 0, .slice none 0 0, .bool false, .slice none 0 0, .bool false] ∧ w.heap.size + 1 < W.heap.size ∧ Below w.heap.size w W) := by
    rw [← hW]
    exact ⟨(Row.new w 45 _ _ rfl).alloc _, Row.new _ 58 _ _ (by simp), by simp, ((Below.refl _ _).alloc (Nat.le_refl _) _).alloc (by simp) _⟩
  have cN : W.cell? ⟨w.heap.size, 0, none⟩ = some (.int .i64 N) := by rw [HW.out.1.cell]; rfl
  have cT : W.cell? ⟨w.heap.size, 1, none⟩ = some (.int .i64 T) := by rw [HW.out.1.cell]; rfl
  have hWs : w.heap.size + 1 < W.heap.size := HW.out.2.2.1
  clear hW
  have nN := World.new_ne W _ cN
  have nT := World.new_ne W _ cT
  go_cut [7] (fun v wx => ∃ P a b g, v = ptr P ∧ Row wx P 58 (prop58 N T a b g) ∧ Row wx b 9 mi ∧ Row wx g 9 [.string s] ∧ b ≠ g ∧ W.heap.size ≤ P ∧ W.heap.size ≤ b ∧ W.heap.size ≤ g ∧ Below W.heap.size W wx)
  case first =>
    go_region_held3 (fun V => V.cell? ⟨w.heap.size, 0, none⟩ = some (.int .i64 N) ∧ V.cell? ⟨w.heap.size, 1, none⟩ = some (.int .i64 T)) (refine ⟨?_, ?_⟩ <;> (repeat (first | assumption | with_reducible refine keepD ?_ | with_reducible refine keepA ?_))) (fail)
    all_goals
      go_wp2
      go_meet
      exact ⟨_, _, _, _, rfl, by (refine RowS.has ?_; repeat (first | with_reducible refine RowS.drew ?_ | (with_reducible refine RowS.new _ _ _ _ ?_; first | rfl | (simp only [World.heap_alloc_size']; done)) | with_reducible refine RowS.alloc ?_ _)), by (refine RowS.has ?_; repeat (first | with_reducible refine RowS.drew ?_ | (with_reducible refine RowS.new _ _ _ _ ?_; first | rfl | (simp only [World.heap_alloc_size']; done)) | with_reducible refine RowS.alloc ?_ _)), by (refine RowS.has ?_; repeat (first | with_reducible refine RowS.drew ?_ | (with_reducible refine RowS.new _ _ _ _ ?_; first | rfl | (simp only [World.heap_alloc_size']; done)) | with_reducible refine RowS.alloc ?_ _)), by omega, by omega, by omega, by omega, by (repeat (first | exact Below.refl _ _ | with_reducible refine Below.drew ?_ | with_reducible refine Below.alloc ?_ (by first | omega | (simp only [World.heap_alloc_size']; omega)) _))⟩
  case rest =>
    obtain ⟨P, a, b, g, rfl, hP, hb, hg, hbg, hPW, hbW, hgW, hbel⟩ := hcut
    have HR : Hid (Row wc (w.heap.size + 1) 58 [.int .i64 0, .int .i64 0, .slice none 0 0, .slice none 0 0, .bool false, .slice none 0 0, .bool false] ∧ Row wc g 9 [.string s] ∧ Below w.heap.size w wc) :=
      ⟨HW.out.2.1.below hbel (by omega), hg, HW.out.2.2.2.trans (hbel.mono (by omega))⟩
    have p0 := hP.cell 0
    have p1 := hP.cell 1
    have p2 := hP.cell 2
    have p3 := hP.cell 3
    have p4 := hP.cell 4
    have p5 := hP.cell 5
    have p6 := hP.cell 6
    simp only [List.getElem?_cons_zero, List.getElem?_cons_succ] at p0 p1 p2 p3 p4 p5 p6
    have hz := HR.out.1
    have z0 := hz.cell 0
    have z1 := hz.cell 1
    have z2 := hz.cell 2
    have z3 := hz.cell 3
    have z4 := hz.cell 4
    have z5 := hz.cell 5
    have z6 := hz.cell 6
    simp only [List.getElem?_cons_zero, List.getElem?_cons_succ] at z0 z1 z2 z3 z4 z5 z6
    have y0 := hz.frozen 0
    have y1 := hz.frozen 1
    have y2 := hz.frozen 2
    have y3 := hz.frozen 3
    have y4 := hz.frozen 4
    have y5 := hz.frozen 5
    have y6 := hz.frozen 6
    have cb : wc.cell? ⟨b, id, none⟩ = some mi[id] := by rw [hb.cell]; simp
    have fb := hb.frozen id
    have n1 : b ≠ P := by
      rintro rfl
      have := hb.symm.trans hP
      simp at this
    have n2 : ¬ w.heap.size + 1 = b := by omega
    have n3 : ¬ w.heap.size + 1 = P := by omega
    have gid : (id : Int) < (N : Int) + 1 := by omega
    clear hP hb hg hbel HW hz hmk55 hmk56
    unfold ptr
    go_wp2_with fail
    refine bodyPost_ret (v := .agg (prop58 N T a b g).toArray) ?_ rfl ⟨a, b, g, rfl, ?_, by omega, ?_⟩
    · simp [results, Ybaz.results21, go_sem, *]
    · repeat refine Row.setOther ?_ _ _ (by first | (simp; done) | (simp; omega))
      exact HR.out.2.1
    · repeat refine Below.setCell ?_ (by first | (simp; done) | (simp; omega)) _
      exact HR.out.2.2
end Propose
end Go.Proofs.YbulkcrfgGreatFmt
