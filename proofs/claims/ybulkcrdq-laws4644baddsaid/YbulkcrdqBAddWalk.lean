/-
  The walk of churn.LawS4644BAdd: it returns true for every input.
-/
import Derived.Test.YbulkcrdqAdd
import Derived.BigQuiet
import Derived.Deep.DeepCutAuto
import Derived.Deep.QuietTactic
import Derived.WalkSmall
namespace Go.Proofs.Ybulkcrdq
open Go.RowKit Go.MuLone
namespace BAdd
open Kit
theorem info76 : (Yba.prog.info? 76).map (fun i => (i.zero, i.size, i.bytes)) = some (some (.agg #[.int .i64 0, .pointer none, .string ⟨#[]⟩, .chan none, .int .u8 0, .int .i64 0, .bool false]), 7, 64) := by kernel_rfl

/-- The cells of a Run that is zero but for what is asked here. -/
def IsZero (zc : List Value) : Prop := zc.length = 61 ∧ zc[32]? = some (.int .i32 0) ∧ zc[36]? = some (.slice none 0 0)

theorem run_neq_slice_nil_nil {P : Program} (w : World) {t e : TypeId} (h : P.underlying t = some (.slice e)) : (binOp .neq t (.slice none 0 0) (.slice none 0 0)).run P w = .ok (.bool false) w := by
  have h1 : ∀ d : Nat, (Op.equalIn (d + 1) t (.slice none 0 0) (.slice none 0 0)).run P w = .ok true w := fun d => by simp [Op.equalIn, run_underlying h]
  simp only [binOp]
  simp [Op.equal, Op.maxDepth, h1 9999]

/-- The members' rows. -/
def Mems (w : World) (f : Nat → Int) (gs : List Nat) (B : Nat) : Prop := ∀ j g, gs[j]? = some g → Row w g 76 (memc (f j) none) ∧ B ≤ g

set_option maxHeartbeats 2000000 in
set_option maxRecDepth 20000 in
theorem walk_main (a0 : Option Addr) (n cap0 adds : Nat) (f : Nat → Int) (w : World) (hn : n ≤ 1024) (hadds : adds < 65536)
   (ha : 0 < n → ∃ b off, a0 = some ⟨b, off, none⟩ ∧ b < w.heap.size ∧ (∀ i, i < n → w.cell? ⟨b, off + i, none⟩ = some (.int .i64 (f i)))) :
    Calls Yba.prog 4 #[.slice a0 n cap0, .int .u16 adds] w fun e w' => e = .returned (.bool true) ∧ Below w.heap.size w w' := by
  obtain ⟨i72, hi72, hz72, hs72, hb72⟩ := info_parts info72
  obtain ⟨i76, hi76, _, hs76, _⟩ := info_parts info76
  have Ha : Hid _ := ha
  clear ha
  have d0 : decide ((1024 : Int) < (n : Int)) = false := by simp; omega
  obtain ⟨k, hk⟩ : ∃ k, k = adds % 512 := ⟨_, rfl⟩
  have hk' : k < 512 := by omega
  have hkI : (adds : Int) % 512 = (k : Int) := by omega
  clear hk
  go_enter Yba.func4, Yba.ntmps4
  go_upto_region 4 with fail
  rw [hkI]
  clear hkI
  go_upto_region 5 with fail
  generalize hW : World.alloc w _ = W1
  have hz : ∃ zc, IsZero zc ∧ Row W1 w.heap.size 71 zc := by
    rw [← hW]
    exact ⟨_, ⟨by rfl, by rfl, by rfl⟩, Row.new _ 71 _ _ rfl⟩
  have hb1 : Below w.heap.size w W1 := by rw [← hW]; exact (Below.refl _ _).alloc (Nat.le_refl _) _
  have hs1 : W1.heap.size = w.heap.size + 1 := by rw [← hW]; simp
  obtain ⟨zc, hzc, hrz⟩ := hz
  have Hzc : Hid _ := hzc
  have HR : Hid (Row _ _ _ _) := hrz
  clear hW hzc hrz
  go_wp2_with (at_make; refine wpList_make_new _ rfl _ _ 63 rfl 72 i72 _ 1 Yba.underlying63 hi72 hz72 hs72 _ _ _ _ 0 n rfl rfl rfl rfl (Nat.zero_le _) (by rw [hb72]; omega) (by unfold maxLen; omega) ?_)
  intro w2 hsz2 hrow2 hbel2
  try rw [hs1] at hsz2
  try rw [hs1] at hrow2
  try rw [hs1] at hbel2
  try rw [hs1]
  have HS : Hid (w2.ownsRow (w.heap.size + 1) 72 1 (.slice (some ⟨w.heap.size + 1, 0, none⟩) 0 n) 0 [] ∧ Row w2 w.heap.size 71 zc ∧ w.heap.size + 1 < w2.heap.size ∧ Below w.heap.size w w2) := by
    refine ⟨⟨by simp, .inr ⟨w.heap.size + 1, n, _, rfl, Nat.le_refl _, hrow2, Nat.zero_le _, by unfold maxLen; omega, by simp [size_madeCells], by simp⟩⟩, HR.out.below hbel2 (by omega), by omega, hb1.trans (hbel2.mono (by omega))⟩
  clear hsz2 hrow2 hbel2 HR hb1 hs1
  go_wp2
  go_loopw [7, 8] (fun v i wr => ∃ (m : Nat) (gs : List Nat), m ≤ n ∧ i = .int .i64 m ∧ v = .slice (some ⟨w.heap.size + 1, 0, none⟩) m n ∧ gs.length = m ∧ wr.ownsRow (w.heap.size + 1) 72 1 (.slice (some ⟨w.heap.size + 1, 0, none⟩) m n) m (gs.map ptr) ∧
      Mems wr f gs (w.heap.size + 2) ∧ Row wr w.heap.size 71 zc ∧ w.heap.size + 1 < wr.heap.size ∧ Below w.heap.size w wr) (fun _ i _ => n - (intOf i).toNat)
  case atStart => exact ⟨0, [], Nat.zero_le _, rfl, rfl, rfl, HS.out.1, fun j g h => by simp at h, HS.out.2.1, HS.out.2.2.1, HS.out.2.2.2⟩
  case round =>
    obtain ⟨m, gs, hm, rfl, rfl, hgl, hown, hmems, hrow, hszr, hbel⟩ := hrel
    have HX : Hid (_ ∧ _ ∧ _) := ⟨hown, hmems, hrow⟩
    clear hown hmems hrow
    by_cases hlt : m < n
    · obtain ⟨b, off, rfl, hbw, hc⟩ := Ha.out (by omega)
      have hcx : wr.cell? ⟨b, off + m, none⟩ = some (.int .i64 (f m)) := (hbel.cell hbw).trans (hc m hlt)
      have hltI : (m : Int) < (n : Int) := by omega
      clear hc
      go_wp2_with (at_builtin; refine wpList_append_fits _ rfl _ _ 63 rfl (w.heap.size + 1) 72 i72 1 Yba.underlying63 hi72 hs72 (w.heap.size + 1) m n (gs.map ptr) rfl ((HX.out.1.alloc (.cells (memc (f m) none).toArray 76)).alloc (.cells #[ptr wr.heap.size] 72)) ⟨wr.heap.size + 1, 0, none⟩ 1 1 [ptr wr.heap.size] rfl rfl ?_ ?_ (by omega) ?_)
      · intro t u ht
        match t, ht with
        | 0, ht => simp at ht; subst ht; rw [show (⟨wr.heap.size + 1, 0, none⟩ : Addr).add 0 = ⟨wr.heap.size + 1, 0, none⟩ from rfl, World.cell?_alloc_at _ _ _ _ (by simp)]; rfl
      · intro u hu; simp at hu; subst hu; rfl
      · intro w3 hown3 hgrow3
        have HY : Hid (w3.ownsRow (w.heap.size + 1) 72 1 (.slice (some ⟨w.heap.size + 1, 0, none⟩) (m + 1) n) (m + 1) ((gs ++ [wr.heap.size]).map ptr) ∧ Mems w3 f (gs ++ [wr.heap.size]) (w.heap.size + 2) ∧ Row w3 w.heap.size 71 zc ∧ w.heap.size + 1 < w3.heap.size ∧ Below w.heap.size w w3) := by
          obtain ⟨hown, hmems, hrow⟩ := HX.out
          have hs3 := hgrow3.size
          simp at hs3
          refine ⟨by rw [List.map_append]; exact hown3, ?_, ?_, by omega, ?_⟩
          · intro j g hj
            have key : ∀ g cs, w.heap.size + 2 ≤ g → Row ((wr.alloc (.cells (memc (f m) none).toArray 76)).alloc (.cells #[ptr wr.heap.size] 72)) g 76 cs → Row w3 g 76 cs := fun g cs hg h =>
              h.of_block (hgrow3.block g h.lt (fun e => by injection e with e; omega))
            rw [List.getElem?_append] at hj
            split at hj
            · obtain ⟨h1, h2⟩ := hmems j g hj
              exact ⟨key g _ h2 ((h1.alloc _).alloc _), h2⟩
            · have hj' : j = m ∧ g = wr.heap.size := by
                rename_i hh
                rcases Nat.lt_or_ge (j - gs.length) 1 with h | h
                · have : j - gs.length = 0 := by omega
                  rw [this] at hj; simp at hj; exact ⟨by omega, hj.symm⟩
                · rw [List.getElem?_eq_none (by simpa using h)] at hj; cases hj
              obtain ⟨rfl, rfl⟩ := hj'
              exact ⟨key _ _ (by omega) ((Row.new _ 76 _ _ rfl).alloc _), by omega⟩
          · exact ((hrow.alloc _).alloc _).of_block (hgrow3.block _ (by simp; omega) (fun e => by injection e with e; omega))
          · exact ((hbel.alloc (by omega) _).alloc (by simp; omega) _).grown hgrow3 (by simp; omega) (fun k hk => by injection hk with hk; omega)
        clear hown3 hgrow3 HX
        go_wp2
        go_roundw
        case rel =>
          obtain ⟨y1, y2, y3, y4, y5⟩ := HY.out
          exact ⟨m + 1, gs ++ [wr.heap.size], by omega, by go_num, rfl, by simp [hgl], y1, y2, y3, y4, y5⟩
        case measure => simp [intOf]; omega
    · obtain rfl : m = n := by omega
      obtain ⟨kp, hkp⟩ : ∃ kp, wr.heap.size = kp := ⟨_, rfl⟩
      go_upto_region 11 with (at_make; refine wpList_make_new _ rfl _ _ 63 rfl 72 i72 _ 1 Yba.underlying63 hi72 hz72 hs72 _ _ _ _ m m rfl rfl rfl rfl (Nat.le_refl _) (by rw [hb72]; omega) (by unfold maxLen; omega) ?_)
      intro w4 hsz4 hrow4 hbel4
      try rw [hkp] at hsz4
      try rw [hkp] at hrow4
      try rw [hkp] at hbel4
      try rw [hkp] at hszr
      try rw [hkp]
      obtain ⟨y0, hy0, hr4⟩ : ∃ x0 : List Value, x0.length = m ∧ Row w4 kp 72 x0 := ⟨_, by simp [size_madeCells], hrow4⟩
      have Hr4 : Hid (Row _ _ _ _) := hr4
      have Hkp : Hid _ := hkp
      clear hrow4 hr4 hkp
      have hsrc : ∀ j v, (gs.map ptr)[j]? = some v → w4.cell? ((⟨w.heap.size + 1, 0, none⟩ : Addr).add j) = some v := by
        have h1 := ownsRow_of_block HX.out.1 (hbel4.block (w.heap.size + 1) (by omega))
        exact h1.cells rfl
      have h1c : ∀ v ∈ gs.map ptr, v.oneCell' = true := by
        intro v hv
        obtain ⟨g, _, rfl⟩ := List.mem_map.1 hv
        rfl
      have Hsrc : Hid _ := hsrc
      have H1c : Hid _ := h1c
      clear hsrc h1c
      go_wp2_with (refine wpList_copy_full rfl (.tmp 45) (.tmp 46) 63 63 rfl 72 Yba.underlying63 (by rw [hi72]; simp [hs72]) kp m ⟨w.heap.size + 1, 0, none⟩ m m rfl rfl y0 72 Hr4.out hy0 (gs.map ptr) (by simp [hgl]) Hsrc.out H1c.out ?_)
      intro w5 ho5 hr5
      have HA : Hid (w5.heap.size = kp + 1 ∧ Row w5 w.heap.size 71 zc ∧ w5.ownsRow (w.heap.size + 1) 72 1 (.slice (some ⟨w.heap.size + 1, 0, none⟩) m m) m (gs.map ptr) ∧ Row w5 kp 72 (gs.map ptr) ∧ Mems w5 f gs (w.heap.size + 2) ∧ Below w.heap.size w w5) := by
        obtain ⟨hown, hmems, hrow⟩ := HX.out
        refine ⟨by rw [ho5.size, hsz4], (hrow.below hbel4 (by omega)).only ho5 (by omega), ownsRow_of_block (ownsRow_of_block hown (hbel4.block _ (by omega))) (ho5.block _ (by omega)), hr5, ?_, (hbel.trans (hbel4.mono (by omega))).trans (ho5.below (by omega))⟩
        intro j g hj
        obtain ⟨h1, h2⟩ := hmems j g hj
        have h3 := h1.lt
        have h4 := Hkp.out
        exact ⟨(h1.below hbel4 (by omega)).only ho5 (by omega), h2⟩
      have c35 : w5.cell? ⟨w.heap.size, 35, none⟩ = some (zc[35]?.getD undef) := by
        rw [HA.out.2.1.cell]
        have := Hzc.out.1
        rw [List.getElem?_eq_getElem (by omega)]; rfl
      have f35 := HA.out.2.1.frozen 35
      clear HX Hsrc H1c Hr4 hr5 ho5 hbel4 hsz4 hbel hlt hm hy0
      go_upto_region 14 with (at_make; refine wpList_make_new _ rfl _ _ 63 rfl 72 i72 _ 1 Yba.underlying63 hi72 hz72 hs72 _ _ _ _ 0 k rfl rfl rfl rfl (Nat.zero_le _) (by rw [hb72]; omega) (by unfold maxLen; omega) ?_)
      intro w7 hsz7 hrow7 hbel7
      obtain ⟨gp, hgp⟩ : ∃ gp, w5.heap.size = gp := ⟨_, rfl⟩
      rw [hgp] at hsz7 hrow7 hbel7 ⊢
      have hkg : kp < gp := by have := HA.out.1; omega
      have HB : Hid (Row w7 w.heap.size 71 (zc.set 35 (.slice (some ⟨w.heap.size + 1, 0, none⟩) m m)) ∧ w7.ownsRow (w.heap.size + 1) 72 1 (.slice (some ⟨w.heap.size + 1, 0, none⟩) m m) m (gs.map ptr) ∧ Row w7 kp 72 (gs.map ptr) ∧
          w7.ownsRow gp 72 1 (.slice (some ⟨gp, 0, none⟩) 0 k) 0 [] ∧ Mems w7 f gs (w.heap.size + 2) ∧ gp < w7.heap.size ∧ Below w.heap.size w w7) := by
        obtain ⟨h1, h2, h3, h4, h5, h6⟩ := HA.out
        have hlt := h3.lt (w.heap.size + 1) rfl
        refine ⟨(h2.set 35 _).below hbel7 (by omega), ?_, (h4.setOther _ _ (by simp; omega)).below hbel7 (by omega), ?_, ?_, by omega, ?_⟩
        · exact ownsRow_of_block h3 ((hbel7.block _ (by omega)).trans (heap_setCell_other _ _ _ _ (by simp)))
        · exact ⟨by simp, .inr ⟨gp, k, _, rfl, Nat.le_refl _, hrow7, Nat.zero_le _, by unfold maxLen; omega, by simp [size_madeCells], by simp⟩⟩
        · intro j g hj
          obtain ⟨e1, e2⟩ := h5 j g hj
          have := e1.lt
          exact ⟨(e1.setOther _ _ (by simp; omega)).below hbel7 (by omega), e2⟩
        · exact (h6.setCell (Nat.le_refl _) _).trans (hbel7.mono (by omega))
      clear HA hsz7 hrow7 hbel7 hgp c35 f35
      go_wp2
      go_loopw [10, 11] (fun v i wr => ∃ (j g1 c1 : Nat) (hs : List Nat), j ≤ k ∧ i = .int .i64 j ∧ v = .slice (some ⟨gp, 0, none⟩) j k ∧ hs.length = j ∧ Row wr w.heap.size 71 (zc.set 35 (.slice (some ⟨g1, 0, none⟩) (m + j) c1)) ∧
          wr.ownsRow (w.heap.size + 1) 72 1 (.slice (some ⟨g1, 0, none⟩) (m + j) c1) (m + j) ((gs ++ hs).map ptr) ∧ g1 ≠ kp ∧ g1 ≠ gp ∧ Row wr kp 72 (gs.map ptr) ∧
          wr.ownsRow gp 72 1 (.slice (some ⟨gp, 0, none⟩) j k) j (hs.map ptr) ∧ Mems wr f gs (w.heap.size + 2) ∧ gp < wr.heap.size ∧ Below w.heap.size w wr) (fun _ i _ => k - (intOf i).toNat)
      case atStart =>
        obtain ⟨b1, b2, b3, b4, b5, b6, b7⟩ := HB.out
        exact ⟨0, w.heap.size + 1, m, [], Nat.zero_le _, rfl, rfl, rfl, b1, by simpa using b2, by omega, by omega, b3, b4, b5, b6, b7⟩
      case round =>
        clear HB
        obtain ⟨j, g1, c1, hs, hj, rfl, rfl, hhl, q1, q2, q3, q4, q5, q6, q7, q8, q9⟩ := hrel
        have HQ : Hid (_ ∧ _ ∧ _ ∧ _ ∧ _) := ⟨q1, q2, q5, q6, q7⟩
        have c35 : wr.cell? ⟨w.heap.size, 35, none⟩ = some (.slice (some ⟨g1, 0, none⟩) (m + j) c1) := by
          rw [q1.cell, List.getElem?_set_self (by have := Hzc.out.1; omega)]
        clear q1 q2 q5 q6 q7
        by_cases hlt : j < k
        · have hltI : (j : Int) < (k : Int) := by omega
          go_wp2_with fail
          obtain ⟨q1, q2, q5, q6, q7⟩ := HQ.out
          refine (add_any wr w.heap.size (m + j) (w.heap.size + 1) g1 c1 _ ((gs ++ hs).map ptr) q1 (by rw [List.getElem?_set_ne (by omega)]; exact Hzc.out.2.1) (by rw [List.getElem?_set_self (by have := Hzc.out.1; omega)]) (by omega) q2 (by omega) (by omega)).mono ?_
          rintro e w8 ⟨g, c, g2, cap2, rfl, hg, r1, r2, r3, r4, r5, r6, r7, r8, r9⟩
          rw [List.set_set] at r2
          have hne : ∀ cs k, Row wr k 76 cs → k ≠ g1 := fun cs k h => h.ne_own q2 (by decide)
          have HC : Hid (Row w8 w.heap.size 71 (zc.set 35 (.slice (some ⟨g2, 0, none⟩) (m + j + 1) cap2)) ∧ w8.ownsRow (w.heap.size + 1) 72 1 (.slice (some ⟨g2, 0, none⟩) (m + j + 1) cap2) (m + j + 1) ((gs ++ (hs ++ [g])).map ptr) ∧ g2 ≠ kp ∧ g2 ≠ gp ∧ Row w8 kp 72 (gs.map ptr) ∧
              w8.ownsRow gp 72 1 (.slice (some ⟨gp, 0, none⟩) j k) j (hs.map ptr) ∧ Mems w8 f gs (w.heap.size + 2) ∧ gp < w8.heap.size ∧ Below w.heap.size w w8 ∧ Row w8 g 76 (memc (m + j : Nat) (some c))) := by
            refine ⟨r2, by rw [← List.append_assoc, List.map_append]; exact r3, by omega, by omega, q5.of_block (r9 kp q5.lt (by omega) (by omega)), ownsRow_of_block q6 (r9 gp (by omega) (by omega) (by omega)), ?_, by omega, ?_, r1⟩
            · intro t h ht
              obtain ⟨e1, e2⟩ := q7 t h ht
              exact ⟨e1.of_block (r9 h e1.lt (by omega) (hne _ _ e1)), e2⟩
            · refine q9.trans ⟨r5, r6, r7, r4, fun i hi => r9 i (by omega) (by omega) ?_⟩
              have := (q2.lt g1 rfl).1
              omega
          clear q1 q2 q5 q6 q7 r1 r2 r3 r4 r5 r6 r7 r8 r9 hne c35 HQ
          have e0 : w8.cell? ⟨g, 0, none⟩ = some (.int .i64 ((m : Int) + (j : Int))) := by rw [HC.out.2.2.2.2.2.2.2.2.2.cell]; rfl
          have e1 : w8.cell? ⟨g, 1, none⟩ = some (.pointer none) := by rw [HC.out.2.2.2.2.2.2.2.2.2.cell]; rfl
          have e2 : w8.cell? ⟨g, 2, none⟩ = some (.string ⟨#[]⟩) := by rw [HC.out.2.2.2.2.2.2.2.2.2.cell]; rfl
          have e3 : w8.cell? ⟨g, 3, none⟩ = some (.chan (some c)) := by rw [HC.out.2.2.2.2.2.2.2.2.2.cell]; rfl
          have e4 : w8.cell? ⟨g, 4, none⟩ = some (.int .u8 0) := by rw [HC.out.2.2.2.2.2.2.2.2.2.cell]; rfl
          have e5 : w8.cell? ⟨g, 5, none⟩ = some (.int .i64 0) := by rw [HC.out.2.2.2.2.2.2.2.2.2.cell]; rfl
          have e6 : w8.cell? ⟨g, 6, none⟩ = some (.bool false) := by rw [HC.out.2.2.2.2.2.2.2.2.2.cell]; rfl
          have k35 : w8.cell? ⟨w.heap.size, 35, none⟩ = some (.slice (some ⟨g2, 0, none⟩) (m + j + 1) cap2) := by
            rw [HC.out.1.cell, List.getElem?_set_self (by have := Hzc.out.1; omega)]
          have k32 : w8.cell? ⟨w.heap.size, 32, none⟩ = some (.int .i32 0) := by
            rw [HC.out.1.cell, List.getElem?_set_ne (by omega)]; exact Hzc.out.2.1
          have kf32 := HC.out.1.frozen 32
          have kg : w8.cell? ⟨g2, m + j, none⟩ = some (ptr g) := by
            rw [HC.out.2.1.cellAt (m + j) (by omega), ← List.append_assoc, List.map_append, List.getElem?_append_right (by simp; omega)]
            simp [hgl, hhl]
          unfold ptr at kg ⊢
          have qc : ∀ W c, (binOp .eql 44 (.chan (some c)) (.chan none)).run Yba.prog W = .ok (.bool false) W := fun W c => run_eql_chan_nil W c Yba.underlying44
          have q72 : ∀ W a, (binOp .neq 72 (.pointer (some a)) (.pointer (some a))).run Yba.prog W = .ok (.bool false) W := fun W a => run_neq_ptr_same W a Yba.underlying72 hi76
          have z1 : (((m : Int) + (j : Int)) != ((m : Int) + (j : Int))) = false := by simp
          have z2 : (((m : Int) + (j : Int) + 1) != ((m : Int) + (j : Int) + 1)) = false := by simp
          go_wp2_with fail
          refine (Locks.try_free w.heap.size 32 w8 k32 kf32).mono ?_
          rintro e w9 ⟨rfl, rfl⟩
          clear e0 e1 e2 e3 e4 e5 e6 qc q72 z1 z2 k35 kg
          go_wp2_with fail
          refine (unlock_held Locks.muLib ⟨w.heap.size, 32, none⟩ _ (World.cell?_setCell_same _ _ _ k32) (by simp [kf32])).mono ?_
          rintro e w10 ⟨rfl, hw10⟩
          have ho10 : Only w.heap.size w8 w10 := by rw [hw10]; exact ((Only.refl _ _).setCell 32 _).setCell 32 _
          have hr10 : Row w10 w.heap.size 71 (zc.set 35 (.slice (some ⟨g2, 0, none⟩) (m + j + 1) cap2)) := by
            have h := (HC.out.1.set 32 (.int .i32 1)).set 32 (.int .i32 0)
            rw [List.set_set] at h
            have e : (zc.set 35 (.slice (some ⟨g2, 0, none⟩) (m + j + 1) cap2)).set 32 (.int .i32 0) = zc.set 35 (.slice (some ⟨g2, 0, none⟩) (m + j + 1) cap2) := by
              apply List.ext_getElem?
              intro t
              by_cases ht : t = 32
              · subst ht
                rw [List.getElem?_set_self (by have := Hzc.out.1; simp; omega), List.getElem?_set_ne (by omega)]; exact Hzc.out.2.1.symm
              · rw [List.getElem?_set_ne (by omega)]
            rw [e] at h
            rw [hw10]; exact h
          have HD : Hid (Row w10 w.heap.size 71 (zc.set 35 (.slice (some ⟨g2, 0, none⟩) (m + j + 1) cap2)) ∧ w10.ownsRow (w.heap.size + 1) 72 1 (.slice (some ⟨g2, 0, none⟩) (m + j + 1) cap2) (m + j + 1) ((gs ++ (hs ++ [g])).map ptr) ∧ g2 ≠ kp ∧ g2 ≠ gp ∧ Row w10 kp 72 (gs.map ptr) ∧
              w10.ownsRow gp 72 1 (.slice (some ⟨gp, 0, none⟩) j k) j (hs.map ptr) ∧ Mems w10 f gs (w.heap.size + 2) ∧ gp < w10.heap.size ∧ Below w.heap.size w w10) := by
            obtain ⟨b1, b2, b3, b4, b5, b6, b7, b8, b9, _⟩ := HC.out
            have hlt2 := (b2.lt g2 rfl).1
            refine ⟨hr10, ownsRow_of_block b2 (ho10.block _ (by omega)), b3, b4, b5.only ho10 (by omega), ownsRow_of_block b6 (ho10.block _ (by omega)), ?_, by rw [ho10.size]; exact b8, b9.trans (ho10.below (Nat.le_refl _))⟩
            intro t h ht
            obtain ⟨e1, e2⟩ := b7 t h ht
            exact ⟨e1.only ho10 (by omega), e2⟩
          have hgp10 : gp < w10.heap.size := HD.out.2.2.2.2.2.2.2.1
          clear hw10 ho10 hr10 HC k32 kf32
          go_wp2_with (at_builtin; refine wpList_append_fits _ rfl _ _ 63 rfl gp 72 i72 1 Yba.underlying63 hi72 hs72 gp j k (hs.map ptr) rfl (HD.out.2.2.2.2.2.1.alloc (.cells #[ptr g] 72)) ⟨w10.heap.size, 0, none⟩ 1 1 [ptr g] rfl rfl ?_ ?_ (by omega) ?_)
          · intro t u ht
            match t, ht with
            | 0, ht => simp at ht; subst ht; rw [show (⟨w10.heap.size, 0, none⟩ : Addr).add 0 = ⟨w10.heap.size, 0, none⟩ from rfl, World.cell?_alloc_at _ _ _ _ rfl]; rfl
          · intro u hu; simp at hu; subst hu; rfl
          · intro w11 hown11 hgrow11
            have HE : Hid (Row w11 w.heap.size 71 (zc.set 35 (.slice (some ⟨g2, 0, none⟩) (m + (j + 1)) cap2)) ∧ w11.ownsRow (w.heap.size + 1) 72 1 (.slice (some ⟨g2, 0, none⟩) (m + (j + 1)) cap2) (m + (j + 1)) ((gs ++ (hs ++ [g])).map ptr) ∧ g2 ≠ kp ∧ g2 ≠ gp ∧ Row w11 kp 72 (gs.map ptr) ∧
              w11.ownsRow gp 72 1 (.slice (some ⟨gp, 0, none⟩) (j + 1) k) (j + 1) ((hs ++ [g]).map ptr) ∧ Mems w11 f gs (w.heap.size + 2) ∧ gp < w11.heap.size ∧ Below w.heap.size w w11) := by
              obtain ⟨b1, b2, b3, b4, b5, b6, b7, b8, b9⟩ := HD.out
              have hs11 := hgrow11.size
              simp at hs11
              have key : ∀ i, i < w10.heap.size → i ≠ gp → w11.heap[i]? = w10.heap[i]? := fun i hi hne =>
                (hgrow11.block i (by simp; omega) (fun e => hne (by injection e))).trans (Below.heap_alloc _ _ _ hi)
              refine ⟨b1.of_block (key _ b1.lt (by omega)), ownsRow_of_block b2 (key _ (b2.lt g2 rfl).2 b4), b3, b4, b5.of_block (key _ b5.lt (by omega)), by rw [List.map_append]; exact hown11, ?_, by omega, ?_⟩
              · intro t h ht
                obtain ⟨e1, e2⟩ := b7 t h ht
                exact ⟨e1.of_block (key _ e1.lt (e1.ne_own b6 (by decide))), e2⟩
              · exact (b9.alloc (by omega) _).grown hgrow11 (by simp; omega) (fun i hi => by injection hi with hi; omega)
            clear hown11 hgrow11 HD
            go_wp2
            go_roundw
            case rel =>
              obtain ⟨b1, b2, b3, b4, b5, b6, b7, b8, b9⟩ := HE.out
              exact ⟨j + 1, g2, cap2, hs ++ [g], by omega, by go_num, rfl, by simp [hhl], b1, b2, b3, b4, b5, b6, b7, b8, b9⟩
            case measure => simp [intOf]; omega
        · obtain rfl : j = k := by omega
          have z1 : (((m : Int) + (j : Int)) != ((m : Int) + (j : Int))) = false := by simp
          have q72 : ∀ W a, (binOp .neq 72 (.pointer (some a)) (.pointer (some a))).run Yba.prog W = .ok (.bool false) W := fun W a => run_neq_ptr_same W a Yba.underlying72 hi76
          have q63 : ∀ W, (binOp .neq 63 (.slice none 0 0) (.slice none 0 0)).run Yba.prog W = .ok (.bool false) W := fun W => run_neq_slice_nil_nil W Yba.underlying63
          have c36 : wr.cell? ⟨w.heap.size, 36, none⟩ = some (.slice none 0 0) := by
            rw [HQ.out.1.cell, List.getElem?_set_ne (by omega)]; exact Hzc.out.2.2
          go_wp2
          go_loopw [14] (fun i w' => ∃ (t q : Nat), t ≤ m ∧ i = .int .i64 t ∧ w' = wr.drewN q) (fun i _ => m - (intOf i).toNat)
          case atStart => exact ⟨0, 0, Nat.zero_le _, rfl, rfl⟩
          case round =>
            obtain ⟨t, q, ht, rfl, rfl⟩ := hrel
            by_cases hlt3 : t < m
            · obtain ⟨b, off, rfl, hbw, hc⟩ := Ha.out (by omega)
              have hcx : wr.cell? ⟨b, off + t, none⟩ = some (.int .i64 (f t)) := (q9.cell hbw).trans (hc t hlt3)
              have hltI : (t : Int) < (m : Int) := by omega
              have hltJ : (t : Int) < (m : Int) + (j : Int) := by omega
              obtain ⟨g, hg⟩ : ∃ g, gs[t]? = some g := ⟨gs[t], by rw [List.getElem?_eq_getElem]⟩
              have ck : wr.cell? ⟨kp, t, none⟩ = some (ptr g) := by rw [HQ.out.2.2.1.cell, List.getElem?_map, hg]; rfl
              have cm : wr.cell? ⟨g1, t, none⟩ = some (ptr g) := by
                rw [HQ.out.2.1.cellAt t (by omega), List.getElem?_map, List.getElem?_append_left (by omega), hg]; rfl
              have ci : wr.cell? ⟨g, 0, none⟩ = some (.int .i64 (f t)) := by rw [(HQ.out.2.2.2.2 t g hg).1.cell]; rfl
              have z2 : ((f t) != (f t)) = false := by simp
              have Hg : Hid _ := hg
              unfold ptr at ck cm
              clear hc hg
              go_wp2
              go_quiet (fail)
              go_wp2
              go_roundw
              case rel => exact ⟨t + 1, _, by omega, by go_num, rfl⟩
              case measure => simp [intOf]; omega
            · go_wp2
              go_loopw [15] (fun i w' => ∃ (s q : Nat), s ≤ j ∧ i = .int .i64 s ∧ w' = wr.drewN q) (fun i _ => j - (intOf i).toNat)
              case atStart => exact ⟨0, _, Nat.zero_le _, rfl, rfl⟩
              case round =>
                obtain ⟨s, q', hs', rfl, rfl⟩ := hrel
                by_cases hlt4 : s < j
                · have hltI : (s : Int) < (j : Int) := by omega
                  have hltJ : (m : Int) + (s : Int) < (m : Int) + (j : Int) := by omega
                  obtain ⟨g, hg⟩ : ∃ g, hs[s]? = some g := ⟨hs[s], by rw [List.getElem?_eq_getElem]⟩
                  have ck : wr.cell? ⟨gp, s, none⟩ = some (ptr g) := by rw [HQ.out.2.2.2.1.cellAt s (by omega), List.getElem?_map, hg]; rfl
                  have cm : wr.cell? ⟨g1, m + s, none⟩ = some (ptr g) := by
                    rw [HQ.out.2.1.cellAt (m + s) (by omega), List.getElem?_map, List.getElem?_append_right (by omega), show m + s - gs.length = s by omega, hg]; rfl
                  have Hg : Hid _ := hg
                  unfold ptr at ck cm
                  clear hg
                  go_wp2
                  go_quiet (fail)
                  go_wp2
                  go_roundw
                  case rel => exact ⟨s + 1, _, by omega, by go_num, rfl⟩
                  case measure => simp [intOf]; omega
                · go_wp2
                  go_ret
                  exact ⟨rfl, below_drewN q9 _⟩
end BAdd
end Go.Proofs.Ybulkcrdq
