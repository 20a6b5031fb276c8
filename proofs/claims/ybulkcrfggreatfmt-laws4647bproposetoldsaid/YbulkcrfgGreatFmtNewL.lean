/-
  LawS4647BPropose: NewEchoLocks.
-/
import Derived.Test.YbulkcrfgGreatFmtNewS
namespace Go.Proofs.YbulkcrfgGreatFmt
open Go.RowKit
namespace Propose
open Kit

/-- Block m is a member: its cfg and id, its proper values g, its echo e, its phases ph, its proposal pv, pk. -/
def LkRow (w : World) (m N T id : Nat) (g e ph pv pk : Value) : Prop :=
  ∃ r, Row w m 77 r ∧ r.length = 36 ∧ r[0]? = some (num N) ∧ r[1]? = some (num T) ∧ r[2]? = some (num id) ∧ r[9]? = some g ∧ r[11]? = some e ∧ r[12]? = some ph ∧ r[17]? = some pv ∧ r[18]? = some pk
theorem LkRow.of_block {w w' : World} {m N T id : Nat} {g e ph pv pk : Value} (h : LkRow w m N T id g e ph pv pk) (hb : w'.heap[m]? = w.heap[m]?) : LkRow w' m N T id g e ph pv pk := by
  obtain ⟨r, h1, h2⟩ := h
  exact ⟨r, h1.of_block hb, h2⟩
theorem LkRow.lt {w : World} {m N T id : Nat} {g e ph pv pk : Value} (h : LkRow w m N T id g e ph pv pk) : m < w.heap.size := by
  obtain ⟨r, h1, h2⟩ := h
  exact h1.lt
theorem LkRow.below {B : Nat} {w w' : World} {m N T id : Nat} {g e ph pv pk : Value} (h : LkRow w m N T id g e ph pv pk) (hb : Below B w w') (hm : m < B) : LkRow w' m N T id g e ph pv pk := h.of_block (hb.block m hm)
theorem LkRow.setOther {w : World} {m N T id : Nat} {g e ph pv pk : Value} (h : LkRow w m N T id g e ph pv pk) (a : Addr) (v : Value) (ha : m ≠ a.block) : LkRow (w.setCell a v) m N T id g e ph pv pk := h.of_block (Below.heap_setCell w a v m ha)
theorem LkRow.only {x : Nat} {w w' : World} {m N T id : Nat} {g e ph pv pk : Value} (h : LkRow w m N T id g e ph pv pk) (ho : Only x w w') (ha : m ≠ x) : LkRow w' m N T id g e ph pv pk := h.of_block (ho.block m ha)
theorem LkRow.any {w : World} {m N T id : Nat} {g e ph pv pk : Value} (h : LkRow w m N T id g e ph pv pk) (i : Nat) (hi : i < 36) : ∃ v, w.cell? ⟨m, i, none⟩ = some v := by
  obtain ⟨r, h1, h2, _⟩ := h
  exact ⟨r[i], by rw [h1.cell]; simp⟩
theorem LkRow.frozen {w : World} {m N T id : Nat} {g e ph pv pk : Value} (h : LkRow w m N T id g e ph pv pk) (i : Nat) : w.frozen? ⟨m, i, none⟩ = false := by
  obtain ⟨r, h1, _⟩ := h
  exact h1.frozen i
theorem LkRow.cells {w : World} {m N T id : Nat} {g e ph pv pk : Value} (h : LkRow w m N T id g e ph pv pk) :
    w.cell? ⟨m, 0, none⟩ = some (num N) ∧ w.cell? ⟨m, 1, none⟩ = some (num T) ∧ w.cell? ⟨m, 2, none⟩ = some (num id) ∧ w.cell? ⟨m, 9, none⟩ = some g ∧ w.cell? ⟨m, 11, none⟩ = some e ∧ w.cell? ⟨m, 12, none⟩ = some ph ∧ w.cell? ⟨m, 17, none⟩ = some pv ∧ w.cell? ⟨m, 18, none⟩ = some pk := by
  obtain ⟨r, h1, _, k0, k1, k2, k3, k4, k5, k6, k7⟩ := h
  refine ⟨?_, ?_, ?_, ?_, ?_, ?_, ?_, ?_⟩ <;> rw [h1.cell] <;> assumption
/-- What cell j of a member is to be behind a store at i. -/
def at' (i j : Nat) (v u : Value) : Value := if i = j then v else u
theorem set_at (r : List Value) (i j : Nat) (v u : Value) (hi : i < r.length) (h : r[j]? = some u) : (r.set i v)[j]? = some (at' i j v u) := by
  unfold at'
  split
  · next e => subst e; rw [List.getElem?_set_self hi]
  · next e => rw [List.getElem?_set_ne e]; exact h
theorem LkRow.set {w : World} {m N T id : Nat} {g e ph pv pk : Value} (h : LkRow w m N T id g e ph pv pk) (i : Nat) (v : Value) (hi : i < 36) (h3 : 3 ≤ i) :
    LkRow (w.setCell ⟨m, i, none⟩ v) m N T id (at' i 9 v g) (at' i 11 v e) (at' i 12 v ph) (at' i 17 v pv) (at' i 18 v pk) := by
  obtain ⟨r, h1, h2, k0, k1, k2, k3, k4, k5, k6, k7⟩ := h
  exact ⟨r.set i v, h1.set i v, by simp [h2], by rw [List.getElem?_set_ne (by omega)]; exact k0, by rw [List.getElem?_set_ne (by omega)]; exact k1, by rw [List.getElem?_set_ne (by omega)]; exact k2,
    set_at r i 9 v g (by omega) k3, set_at r i 11 v e (by omega) k4, set_at r i 12 v ph (by omega) k5, set_at r i 17 v pv (by omega) k6, set_at r i 18 v pk (by omega) k7⟩

theorem LkRow.two {w : World} {m N T id : Nat} {g e ph pv pk : Value} (h : LkRow w m N T id g e ph pv pk) (i j : Nat) (hi : i < 36) (hj : j < 36) : (∃ v, w.cell? ⟨m, i, none⟩ = some v) ∧ (∃ v, w.cell? ⟨m, j, none⟩ = some v) ∧ w.frozen? ⟨m, i, none⟩ = false ∧ w.frozen? ⟨m, j, none⟩ = false :=
  ⟨h.any i hi, h.any j hj, h.frozen i, h.frozen j⟩

def qE (N : Nat) (i : Nat) : Nat := if i = 1 then N else 1
theorem row_q {w : World} {b N : Nat} (h : Row w b 3 [.int .i64 3, num (3 * N), .int .i64 3]) : Row w b 3 ((List.range 3).map fun i => .int .i64 ((3 * qE N i : Nat) : Int)) := h

/-- The cells of cfg in block C. -/
def Cf (w : World) (C N T : Nat) : Prop := w.cell? ⟨C, 0, none⟩ = some (.int .i64 N) ∧ w.cell? ⟨C, 1, none⟩ = some (.int .i64 T)
theorem Cf.lt {w : World} {C N T : Nat} (h : Cf w C N T) : C < w.heap.size := World.block_lt_of_cell? w _ h.1
theorem periods_keep (C N T : Nat) (hN : N ≤ 7) (w : World) (h : w.cell? ⟨C, 0, none⟩ = some (.int .i64 N) ∧ w.cell? ⟨C, 1, none⟩ = some (.int .i64 T)) :
    Calls Ybaz.prog 17 #[cfg N T] w fun e w' => ∃ b, e = .returned (.slice (some ⟨b, 0, none⟩) 3 3) ∧ (w'.cell? ⟨C, 0, none⟩ = some (.int .i64 N) ∧ w'.cell? ⟨C, 1, none⟩ = some (.int .i64 T)) ∧ Row w' b 3 [.int .i64 3, num (3 * N), .int .i64 3] ∧ w.heap.size ≤ b ∧ Below w.heap.size w w' := by
  refine (periods_ok N T hN w).mono ?_
  rintro e w' ⟨b, rfl, h1, h2, h3⟩
  have hl := Cf.lt h
  exact ⟨b, rfl, ⟨(h3.cell hl).trans h.1, (h3.cell hl).trans h.2⟩, h1, h2, h3⟩
theorem newEcho_keep (C N T id b m0 : Nat) (w : World) (hN : 1 ≤ N ∧ N ≤ 7) (hT : T < N) (hid : 1 ≤ id ∧ id ≤ N) (hp : Row w b 3 [.int .i64 3, num (3 * N), .int .i64 3]) (h : w.cell? ⟨C, 0, none⟩ = some (.int .i64 N) ∧ w.cell? ⟨C, 1, none⟩ = some (.int .i64 T)) :
    Calls Ybaz.prog 16 #[cfg N T, num id, .slice (some ⟨b, 0, none⟩) 3 3, .func (.func 18) #[ptr m0] #[]] w fun e w' => ∃ M S mb, e = .returned (.tuple #[ptr M, .nilIface]) ∧ (w'.cell? ⟨C, 0, none⟩ = some (.int .i64 N) ∧ w'.cell? ⟨C, 1, none⟩ = some (.int .i64 T)) ∧
      MRow w' M S mb ∧ MapE w' mb ∧ w.heap.size ≤ M ∧ w.heap.size ≤ mb ∧ M ≠ mb ∧ Below w.heap.size w w' := by
  refine (newEcho N T id b m0 3 (fun i => 3 * qE N i) (qE N) w hN hT hid (by omega) (by omega) (fun i => by unfold qE; split <;> omega) (fun i => rfl) (row_q hp)).mono ?_
  rintro e w' ⟨M, S, mb, rfl, h1, h2, h3, h4, h5, h6⟩
  have hl := Cf.lt h
  exact ⟨M, S, mb, rfl, ⟨(h6.cell hl).trans h.1, (h6.cell hl).trans h.2⟩, h1, h2, h3, h4, h5, h6⟩

theorem info54 : (Ybaz.prog.info? 54).map (fun i => (i.zero, i.size, i.bytes)) = some (some (.agg #[.int .i64 0, .slice none 0 0]), 2, 32) := by kernel_rfl

set_option maxHeartbeats 4000000 in
set_option maxRecDepth 20000 in
theorem newLocks (N T id v : Nat) (w : World) (hN : 1 ≤ N ∧ N ≤ 7) (hT : T < N) (hid : 1 ≤ id ∧ id ≤ N) (hv : 1 ≤ v ∧ v ≤ 4) :
    Calls Ybaz.prog 10 #[cfg N T, num id, str (poolL v)] w fun x w' => ∃ m eb S mb ph g pl, x = .returned (.tuple #[ptr m, .nilIface]) ∧
      LkRow w' m N T id (.slice (some ⟨g, 0, none⟩) 1 1) (ptr eb) (.slice (some ⟨ph, 0, none⟩) N N) (.string ⟨#[]⟩) (.int .i64 0) ∧ Row w' g 9 [str (poolL v)] ∧ Row w' ph 54 pl ∧ pl.length = N * 2 ∧ MRow w' eb S mb ∧ MapE w' mb ∧
      w.heap.size ≤ m ∧ w.heap.size ≤ g ∧ w.heap.size ≤ ph ∧ w.heap.size ≤ eb ∧ w.heap.size ≤ mb ∧ Below w.heap.size w w' := by
  obtain ⟨i54, hi54, hz54, hs54, hb54⟩ := info_parts info54
  go_enter Ybaz.func10, Ybaz.ntmps10
  go_upto_region 2 with fail
  generalize hW : World.alloc (World.alloc w _) _ = W
  have HW : Hid (Row W w.heap.size 45 [.int .i64 N, .int .i64 T] ∧ LkRow W (w.heap.size + 1) N T id (.slice none 0 0) (.pointer none) (.slice none 0 0) (.string ⟨#[]⟩) (.int .i64 0) ∧ w.heap.size + 1 < W.heap.size ∧ Below w.heap.size w W) := by
    rw [← hW]
    exact ⟨(Row.new w 45 _ _ rfl).alloc _, ⟨_, Row.new _ 77 _ _ (by simp), rfl, rfl, rfl, rfl, rfl, rfl, rfl, rfl, rfl⟩, by simp, ((Below.refl _ _).alloc (Nat.le_refl _) _).alloc (by simp) _⟩
  have cN : W.cell? ⟨w.heap.size, 0, none⟩ = some (.int .i64 N) := by rw [HW.out.1.cell]; rfl
  have cT : W.cell? ⟨w.heap.size, 1, none⟩ = some (.int .i64 T) := by rw [HW.out.1.cell]; rfl
  have hWs : w.heap.size + 1 < W.heap.size := HW.out.2.2.1
  clear hW
  go_cut [9, 10] (fun v9 v10 wx => ∃ eb S mb, v9 = ptr eb ∧ v10 = .nilIface ∧ MRow wx eb S mb ∧ MapE wx mb ∧ W.heap.size ≤ eb ∧ W.heap.size ≤ mb ∧ eb ≠ mb ∧ Below W.heap.size W wx)
  case first =>
    go_region_held3 (fun V => V.cell? ⟨w.heap.size, 0, none⟩ = some (.int .i64 N) ∧ V.cell? ⟨w.heap.size, 1, none⟩ = some (.int .i64 T)) (first | assumption | (refine ⟨?_, ?_⟩ <;> (repeat (first | assumption | with_reducible refine keepD ?_ | with_reducible refine keepA ?_))))
      (first
        | (go_at_call 17; refine (periods_keep w.heap.size N T hN.2 _ ?_).mono ?_; (first | assumption | (refine ⟨?_, ?_⟩ <;> (repeat (first | assumption | with_reducible refine keepD ?_ | with_reducible refine keepA ?_)))); rintro e wp ⟨b, rfl, hkp, hrp, hbp, hBp⟩)
        | (go_at_call 16; refine (newEcho_keep w.heap.size N T id b _ _ hN hT hid ?_ ?_).mono ?_; assumption; (first | assumption | (refine ⟨?_, ?_⟩ <;> (repeat (first | assumption | with_reducible refine keepD ?_ | with_reducible refine keepA ?_)))); rintro e we ⟨M, S, mb, rfl, hke, hme, hmp, hM, hmb, hMm, hBe⟩))
    all_goals
      go_wp2
      go_meet
      have h1 : W.heap.size ≤ wp.heap.size := hBp.size
      exact ⟨M, S, mb, rfl, rfl, hme, hmp, by omega, by omega, hMm, (((Below.refl W.heap.size W).drew).trans hBp).trans (hBe.mono h1)⟩
  case rest =>
    obtain ⟨eb, S, mb, rfl, rfl, hme, hmp, heb, hmb, hem, hBc⟩ := hcut
    have HR : Hid (Row wc w.heap.size 45 [.int .i64 N, .int .i64 T] ∧ LkRow wc (w.heap.size + 1) N T id (.slice none 0 0) (.pointer none) (.slice none 0 0) (.string ⟨#[]⟩) (.int .i64 0) ∧ MRow wc eb S mb ∧ MapE wc mb ∧ Below w.heap.size w wc) :=
      ⟨HW.out.1.below hBc (by omega), HW.out.2.1.below hBc (by omega), hme, hmp, HW.out.2.2.2.trans (hBc.mono (by omega))⟩
    obtain ⟨M0, hM0⟩ : ∃ M0, w.heap.size + 1 = M0 := ⟨_, rfl⟩
    rw [hM0] at HR ⊢
    have c0 : wc.cell? ⟨w.heap.size, 0, none⟩ = some (.int .i64 N) := by rw [HR.out.1.cell]; rfl
    have hCs : W.heap.size ≤ wc.heap.size := hBc.size
    clear hme hmp hBc HW cN cT
    go_upto_region 8 with (go_at_call 19; refine (CheckValue_good v hv _).mono ?_; rintro e w1 ⟨rfl, rfl⟩)
    go_wp2_with (at_make; refine wpList_make_new _ rfl _ _ 60 rfl 54 i54 _ 2 Ybaz.underlying60 hi54 hz54 hs54 _ _ _ _ N N rfl rfl (by omega) (by omega) (Nat.le_refl _) (by rw [hb54]; omega) (by unfold maxLen; omega) ?_)
    intro w3 hsz3 hrow3 hbel3
    obtain ⟨PH, hPH⟩ : ∃ PH, w1.heap.size = PH := ⟨_, rfl⟩
    rw [hPH] at hsz3 hrow3 hbel3 hCs ⊢
    obtain ⟨pl0, hpl0, hr3⟩ : ∃ x0 : List Value, x0.length = N * 2 ∧ Row w3 PH 54 x0 := ⟨_, by simp [size_madeCells], hrow3⟩
    have hebl : eb < PH := by
      obtain ⟨r, h, _⟩ := HR.out.2.2.1
      have := h.lt
      omega
    have hmbl : mb < PH := by
      have := HR.out.2.2.2.1.lt
      omega
    have HY : Hid (Row w3 w.heap.size 45 [.int .i64 N, .int .i64 T] ∧ LkRow w3 M0 N T id (.slice none 0 0) (.pointer none) (.slice none 0 0) (.string ⟨#[]⟩) (.int .i64 0) ∧ MRow w3 eb S mb ∧ MapE w3 mb ∧ Row w3 PH 54 pl0 ∧ PH < w3.heap.size ∧ Below w.heap.size w w3) := by
      obtain ⟨a1, a2, a3, a4, a5⟩ := HR.out
      exact ⟨a1.below hbel3 (by omega), a2.below hbel3 (by omega), a3.other (hbel3.block eb hebl), a4.below3 hbel3 hmbl, hr3, by omega, a5.trans (hbel3.mono (by omega))⟩
    obtain ⟨v12, c12⟩ := HY.out.2.1.any 12 (by omega)
    have f12 := HY.out.2.1.frozen 12
    clear HR hsz3 hrow3 hbel3 hr3 c0
    go_wp2_with fail
    go_loopw [47] (fun i wr => ∃ (k : Nat) (pl : List Value), k ≤ N ∧ i = num k ∧ pl.length = N * 2 ∧ Row wr PH 54 pl ∧ Row wr w.heap.size 45 [.int .i64 N, .int .i64 T] ∧ LkRow wr M0 N T id (.slice none 0 0) (.pointer none) (.slice (some ⟨PH, 0, none⟩) N N) (.string ⟨#[]⟩) (.int .i64 0) ∧ MRow wr eb S mb ∧ MapE wr mb ∧ PH < wr.heap.size ∧ Below w.heap.size w wr) (fun i _ => N - (intOf i).toNat)
    case atStart =>
      obtain ⟨a1, a2, a3, a4, a5, a6, a7⟩ := HY.out
      exact ⟨0, pl0, Nat.zero_le _, rfl, hpl0, a5.setOther _ _ (by simp; omega), a1.setOther _ _ (by simp; omega), a2.set 12 _ (by omega) (by omega), a3.other (Below.heap_setCell _ _ _ _ (by simp; omega)), a4.setOther _ _ (by simp; omega), by simp; omega, a7.setCell (by simp; omega) _⟩
    case round =>
      clear HY c12 f12 hpl0
      obtain ⟨k, pl, hk, rfl, hpl, p1, p2, p3, p4, p5, p6, p7⟩ := hrel
      have HP : Hid (_ ∧ _ ∧ _ ∧ _ ∧ _) := ⟨p1, p2, p3, p4, p5⟩
      have c0 : wr.cell? ⟨w.heap.size, 0, none⟩ = some (.int .i64 N) := by rw [p2.cell]; rfl
      by_cases hlt : k < N
      · have hltI : (k : Int) < (N : Int) := by omega
        have c12 := p3.cells.2.2.2.2.2.1
        have cp : wr.cell? ⟨PH, k * 2, none⟩ = some pl[k * 2] := by rw [p1.cell]; simp
        have fp := p1.frozen (k * 2)
        clear p1 p2 p3 p4 p5
        go_wp2_with fail
        go_region
        go_wp2
        go_roundw
        case rel =>
          obtain ⟨a1, a2, a3, a4, a5⟩ := HP.out
          have ho : ∀ u : Value, Only PH wr ((wr.setCell ⟨PH, k * 2, none⟩ u).drew) := fun u => ((Only.refl _ _).setCell _ _).drew
          exact ⟨k + 1, _, by omega, by go_num, by simp [hpl], a1.set _ _, a2.only (ho _) (by omega), a3.only (ho _) (by omega), a4.other ((ho _).block eb (by omega)), a5.only (ho _) (by omega), by rw [(ho _).size]; exact p6, p7.trans ((ho _).below (by omega))⟩
        case measure => simp [intOf]; omega
      · obtain ⟨v11, c11⟩ := p3.any 11 (by omega)
        have f11 := p3.frozen 11
        clear p1 p2 p3 p4 p5
        go_upto_region 15 with fail
        generalize hV1 : World.setCell wr _ _ = V1
        have H1 : Hid (Row V1 PH 54 pl ∧ Row V1 w.heap.size 45 [.int .i64 N, .int .i64 T] ∧ LkRow V1 M0 N T id (.slice none 0 0) (ptr eb) (.slice (some ⟨PH, 0, none⟩) N N) (.string ⟨#[]⟩) (.int .i64 0) ∧ MRow V1 eb S mb ∧ MapE V1 mb ∧ PH < V1.heap.size ∧ Below w.heap.size w V1) := by
          obtain ⟨a1, a2, a3, a4, a5⟩ := HP.out
          rw [← hV1]
          exact ⟨a1.setOther _ _ (by simp; omega), a2.setOther _ _ (by simp; omega), a3.set 11 _ (by omega) (by omega), a4.other (Below.heap_setCell _ _ _ _ (by simp; omega)), a5.setOther _ _ (by simp; omega), by simp; omega, p7.setCell (by simp; omega) _⟩
        clear hV1 HP c11 f11 c0
        have c0 : V1.cell? ⟨w.heap.size, 0, none⟩ = some (.int .i64 N) := by rw [H1.out.2.1.cell]; rfl
        go_upto_region 16 with (go_at_call 20; refine (mset_ok N hN.2 _).mono ?_; rintro e w4 ⟨rfl, hb4⟩; obtain ⟨⟨v24, c24⟩, ⟨v25, c25⟩, f24, f25⟩ := (H1.out.2.2.1.below hb4 H1.out.2.2.1.lt).two 24 25 (by omega) (by omega))
        have H2 : Hid (Row w4 PH 54 pl ∧ Row w4 w.heap.size 45 [.int .i64 N, .int .i64 T] ∧ LkRow w4 M0 N T id (.slice none 0 0) (ptr eb) (.slice (some ⟨PH, 0, none⟩) N N) (.string ⟨#[]⟩) (.int .i64 0) ∧ MRow w4 eb S mb ∧ MapE w4 mb ∧ PH < w4.heap.size ∧ Below w.heap.size w w4) := by
          obtain ⟨a1, a2, a3, a4, a5, a6, a7⟩ := H1.out
          have := hb4.size
          exact ⟨a1.below hb4 a1.lt, a2.below hb4 a2.lt, a3.below hb4 a3.lt, a4.other (hb4.block eb (by omega)), a5.below3 hb4 a5.lt, by omega, a7.trans (hb4.mono a7.size)⟩
        clear H1 c0 hb4
        generalize hV2 : World.setCell (World.setCell w4 _ _) _ _ = V2
        have H3 : Hid (Row V2 PH 54 pl ∧ Row V2 w.heap.size 45 [.int .i64 N, .int .i64 T] ∧ LkRow V2 M0 N T id (.slice none 0 0) (ptr eb) (.slice (some ⟨PH, 0, none⟩) N N) (.string ⟨#[]⟩) (.int .i64 0) ∧ MRow V2 eb S mb ∧ MapE V2 mb ∧ PH < V2.heap.size ∧ Below w.heap.size w V2) := by
          obtain ⟨a1, a2, a3, a4, a5, a6, a7⟩ := H2.out
          have ho : Only M0 w4 V2 := by
            rw [← hV2]
            exact ((Only.refl _ _).setCell _ _).setCell _ _
          refine ⟨a1.only ho (by omega), a2.only ho (by omega), ?_, a4.other (ho.block eb (by omega)), a5.only ho (by omega), by rw [ho.size]; exact a6, a7.trans (ho.below (by omega))⟩
          rw [← hV2]
          exact (a3.set 24 _ (by omega) (by omega)).set 25 _ (by omega) (by omega)
        clear hV2 H2 c24 c25 f24 f25
        have c0 : V2.cell? ⟨w.heap.size, 0, none⟩ = some (.int .i64 N) := by rw [H3.out.2.1.cell]; rfl
        have c1 : V2.cell? ⟨w.heap.size, 1, none⟩ = some (.int .i64 T) := by rw [H3.out.2.1.cell]; rfl
        have H3L : Hid (LkRow V2 M0 N T id (.slice none 0 0) (ptr eb) (.slice (some ⟨PH, 0, none⟩) N N) (.string ⟨#[]⟩) (.int .i64 0)) := H3.out.2.2.1
        go_upto_region 17 with (go_at_call 21; refine (proper_ok N T id ⟨(poolL v).toArray⟩ hN hid _).mono ?_; rintro e w5 ⟨pa, pb, g, rfl, hg, hgl, hb5⟩; obtain ⟨⟨v4, x4⟩, ⟨v5, x5⟩, y4, y5⟩ := (H3L.out.below hb5 H3L.out.lt).two 4 5 (by omega) (by omega); obtain ⟨⟨v6, x6⟩, ⟨v7, x7⟩, y6, y7⟩ := (H3L.out.below hb5 H3L.out.lt).two 6 7 (by omega) (by omega); obtain ⟨⟨v8, x8⟩, ⟨v9, x9⟩, y8, y9⟩ := (H3L.out.below hb5 H3L.out.lt).two 8 9 (by omega) (by omega); obtain ⟨⟨v10, x10⟩, ⟨_, _⟩, y10, _⟩ := (H3L.out.below hb5 H3L.out.lt).two 10 10 (by omega) (by omega))
        have H4 : Hid (Row w5 PH 54 pl ∧ Row w5 w.heap.size 45 [.int .i64 N, .int .i64 T] ∧ LkRow w5 M0 N T id (.slice none 0 0) (ptr eb) (.slice (some ⟨PH, 0, none⟩) N N) (.string ⟨#[]⟩) (.int .i64 0) ∧ MRow w5 eb S mb ∧ MapE w5 mb ∧ PH < w5.heap.size ∧ Row w5 g 9 [str (poolL v)] ∧ PH < g ∧ Below w.heap.size w w5) := by
          obtain ⟨a1, a2, a3, a4, a5, a6, a7⟩ := H3.out
          have := hb5.size
          exact ⟨a1.below hb5 a1.lt, a2.below hb5 a2.lt, a3.below hb5 a3.lt, a4.other (hb5.block eb (by omega)), a5.below3 hb5 a5.lt, by omega, hg, by omega, a7.trans (hb5.mono a7.size)⟩
        clear H3 H3L c0 c1 hg hgl hb5
        generalize hV3 : World.setCell (World.setCell (World.setCell (World.setCell (World.setCell (World.setCell (World.setCell w5 _ _) _ _) _ _) _ _) _ _) _ _) _ _ = V3
        have H5 : Hid (Row V3 PH 54 pl ∧ Row V3 w.heap.size 45 [.int .i64 N, .int .i64 T] ∧ LkRow V3 M0 N T id (.slice (some ⟨g, 0, none⟩) 1 1) (ptr eb) (.slice (some ⟨PH, 0, none⟩) N N) (.string ⟨#[]⟩) (.int .i64 0) ∧ MRow V3 eb S mb ∧ MapE V3 mb ∧ PH < V3.heap.size ∧ Row V3 g 9 [str (poolL v)] ∧ PH < g ∧ Below w.heap.size w V3) := by
          obtain ⟨a1, a2, a3, a4, a5, a6, a7, a8, a9⟩ := H4.out
          have ho : Only M0 w5 V3 := by
            rw [← hV3]
            exact (((((((Only.refl _ _).setCell _ _).setCell _ _).setCell _ _).setCell _ _).setCell _ _).setCell _ _).setCell _ _
          refine ⟨a1.only ho (by omega), a2.only ho (by omega), ?_, a4.other (ho.block eb (by omega)), a5.only ho (by omega), by rw [ho.size]; exact a6, a7.only ho (by omega), a8, a9.trans (ho.below (by omega))⟩
          rw [← hV3]
          exact ((((((a3.set 4 _ (by omega) (by omega)).set 5 _ (by omega) (by omega)).set 6 _ (by omega) (by omega)).set 7 _ (by omega) (by omega)).set 8 _ (by omega) (by omega)).set 9 _ (by omega) (by omega)).set 10 _ (by omega) (by omega)
        clear hV3 H4 x4 x5 x6 x7 x8 x9 x10 y4 y5 y6 y7 y8 y9 y10
        have c0 : V3.cell? ⟨w.heap.size, 0, none⟩ = some (.int .i64 N) := by rw [H5.out.2.1.cell]; rfl
        go_wp2_with (go_at_call 22; refine (box22 N (by omega) _).mono ?_; rintro e w6 ⟨bg, rfl, hs6, hb6⟩; obtain ⟨⟨v34, c34⟩, ⟨v35, c35⟩, f34, f35⟩ := (H5.out.2.2.1.below hb6 H5.out.2.2.1.lt).two 34 35 (by omega) (by omega))
        have H6 : Hid (Row w6 PH 54 pl ∧ LkRow w6 M0 N T id (.slice (some ⟨g, 0, none⟩) 1 1) (ptr eb) (.slice (some ⟨PH, 0, none⟩) N N) (.string ⟨#[]⟩) (.int .i64 0) ∧ MRow w6 eb S mb ∧ MapE w6 mb ∧ PH < w6.heap.size ∧ Row w6 g 9 [str (poolL v)] ∧ PH < g ∧ Below w.heap.size w w6) := by
          obtain ⟨a1, a2, a3, a4, a5, a6, a7, a8, a9⟩ := H5.out
          exact ⟨a1.below hb6 a1.lt, a3.below hb6 a3.lt, a4.other (hb6.block eb (by omega)), a5.below3 hb6 a5.lt, by omega, a7.below hb6 a7.lt, a8, a9.trans (hb6.mono a9.size)⟩
        go_ret2
        obtain ⟨a1, a3, a4, a5, a6, a7, a8, a9⟩ := H6.out
        have ho : ∀ u v : Value, Only M0 w6 ((w6.setCell ⟨M0, 34, none⟩ u).setCell ⟨M0, 35, none⟩ v) := fun u v => ((Only.refl _ _).setCell _ _).setCell _ _
        exact ⟨M0, eb, S, mb, PH, g, pl, rfl, (a3.set 34 _ (by omega) (by omega)).set 35 _ (by omega) (by omega), a7.only (ho _ _) (by omega), a1.only (ho _ _) (by omega), hpl, a4.other ((ho _ _).block eb (by omega)), a5.only (ho _ _) (by omega), by omega, by omega, by omega, by omega, by omega, a9.trans ((ho _ _).below (by omega))⟩
end Propose
end Go.Proofs.YbulkcrfgGreatFmt
