/-
  The walk of churn.LawS4644COther: it returns true for every input.
-/
import Derived.Test.YbulkcrdqOther
import Derived.Deep.DeepCutAuto
import Derived.Deep.QuietTactic
namespace Go.Proofs.Ybulkcrdq
open Go.RowKit
namespace COther
open Kit Rand
theorem info72 : (Yba.prog.info? 72).map (fun i => (i.zero, i.size, i.bytes)) = some (some (.pointer none), 1, 8) := by kernel_rfl
theorem info76 : (Yba.prog.info? 76).map (fun i => (i.zero, i.size, i.bytes)) = some (some (.agg #[.int .i64 0, .pointer none, .string ⟨#[]⟩, .chan none, .int .u8 0, .int .i64 0, .bool false]), 7, 64) := by kernel_rfl

/-- A member's cells. -/
def memc (i st sl : Int) : List Value := [.int .i64 i, .pointer none, .string ⟨#[]⟩, .chan none, .int .u8 st, .int .i64 sl, .bool false]

set_option maxHeartbeats 1000000 in
set_option maxRecDepth 20000 in
theorem walk (seed k mode pos : Nat) (h1 : k < 65536) (h2 : mode < 256) (h3 : pos < 65536) (w : World) :
    Calls Yba.prog 5 #[.int .u64 seed, .int .u16 k, .int .u8 mode, .int .u16 pos] w fun e w' => e = .returned (.bool true) ∧ Below w.heap.size w w' := by
  obtain ⟨i72, hi72, hz72, hs72, hb72⟩ := info_parts info72
  obtain ⟨i76, hi76, _, hs76, _⟩ := info_parts info76
  obtain ⟨n, hn⟩ : ∃ n, n = k % 1025 := ⟨_, rfl⟩
  have hn' : n ≤ 1024 := by omega
  have hnI : (k : Int) % 1025 = (n : Int) := by omega
  clear hn
  go_enter Yba.func5, Yba.ntmps5
  go_upto_region 2 with fail
  rw [hnI]
  clear hnI
  go_wp2_with (at_make; go_loud (refine wpList_make_new _ rfl _ _ 63 rfl 72 i72 _ 1 Yba.underlying63 hi72 hz72 hs72 _ _ _ _ n n rfl rfl rfl rfl (Nat.le_refl _) (by rw [hb72]; omega) (by unfold maxLen; omega) ?_))
  intro w1 hsz1 hrow1 hbel1
  obtain ⟨x0, hx0, hr1⟩ : ∃ x0 : List Value, x0.length = n ∧ Row w1 w.heap.size 72 x0 := ⟨_, by simp [size_madeCells], hrow1⟩
  have Hr1 : Hid (Row _ _ _ _) := hr1
  clear hrow1 hr1
  go_wp2
  go_loopw [11] (fun i wr => ∃ (m : Nat) (cs : List Value), m ≤ n ∧ i = .int .i64 m ∧ wr.heap.size = w.heap.size + 1 + m ∧ cs.length = n ∧ (∀ j, j < m → cs[j]? = some (ptr (w.heap.size + 1 + j))) ∧
      Row wr w.heap.size 72 cs ∧ (∀ j, j < m → Row wr (w.heap.size + 1 + j) 76 (memc j 1 j)) ∧ Below w.heap.size w wr) (fun i _ => n - (intOf i).toNat)
  case atStart => exact ⟨0, x0, Nat.zero_le _, rfl, hsz1, hx0, fun j hj => by omega, Hr1.out, fun j hj => by omega, hbel1⟩
  case round =>
    obtain ⟨m, cs, hm, rfl, hsz, hcl, hcs, hrow, hmem, hbel⟩ := hrel
    have HR : Hid (_ ∧ _ ∧ _) := ⟨hcs, hrow, hmem⟩
    by_cases hlt : m < n
    · have hf := hrow.frozen m
      obtain ⟨c0, hc0⟩ : ∃ c0, wr.cell? ⟨w.heap.size, m, none⟩ = some c0 := ⟨cs[m], by rw [hrow.cell]; simp⟩
      have hltI : (m : Int) < (n : Int) := by omega
      have hB : w.heap.size < wr.heap.size := by omega
      have HZ : Hid _ := hsz
      clear hcs hrow hmem hsz
      go_wp2
      go_roundw
      case rel =>
        obtain ⟨hcs, hrow, hmem⟩ := HR.out
        have hsz := HZ.out
        refine ⟨m + 1, cs.set m (ptr wr.heap.size), by omega, by go_num, by simp; omega, by simp [hcl], ?_, ?_, ?_, ?_⟩
        · intro j hj
          by_cases e : j = m
          · subst e; rw [List.getElem?_set_self (by omega), hsz]
          · rw [List.getElem?_set_ne (by omega)]; exact hcs j (by omega)
        · exact (hrow.set m _).alloc _
        · intro j hj
          by_cases e : j = m
          · subst e; exact Row.new _ 76 (memc j 1 j) _ (by simp [hsz])
          · exact ((hmem j (by omega)).setOther _ _ (by simp; omega)).alloc _
        · exact (hbel.setCell (Nat.le_refl _) _).alloc (by simp; omega) _
      case measure => simp [intOf]; omega
    · obtain rfl : m = n := by omega
      have HZ : Hid _ := hsz
      clear hcs hrow hmem hsz
      go_wp2_with (at_make; refine wpList_make_new _ rfl _ _ 63 rfl 72 i72 _ 1 Yba.underlying63 hi72 hz72 hs72 _ _ _ _ m m rfl rfl rfl rfl (Nat.le_refl _) (by rw [hb72]; omega) (by unfold maxLen; omega) ?_)
      intro w2 hsz2 hrow2 hbel2
      obtain ⟨y0, hy0, hr2⟩ : ∃ x0 : List Value, x0.length = m ∧ Row w2 wr.heap.size 72 x0 := ⟨_, by simp [size_madeCells], hrow2⟩
      have Hr2 : Hid (Row _ _ _ _) := hr2
      clear hrow2 hr2
      go_upto_region 8 with fail
      have hB : w.heap.size < wr.heap.size := by have := HZ.out; omega
      have hsrc : ∀ j v, cs[j]? = some v → w2.cell? ((⟨w.heap.size, 0, none⟩ : Addr).add j) = some v := by
        intro j v hv
        rw [show (⟨w.heap.size, 0, none⟩ : Addr).add j = ⟨w.heap.size, j, none⟩ by unfold Addr.add; split <;> simp_all]
        rw [((HR.out.2.1).below hbel2 hB).cell j, hv]
      have h1c : ∀ v ∈ cs, v.oneCell' = true := by
        intro v hv
        obtain ⟨j, hj, rfl⟩ := List.getElem_of_mem hv
        have := HR.out.1 j (by omega)
        rw [List.getElem?_eq_getElem hj] at this
        injection this with this
        rw [this]; rfl
      have Hsrc : Hid _ := hsrc
      have H1c : Hid _ := h1c
      clear hsrc h1c
      go_wp2_with (refine wpList_copy_full rfl (.tmp 43) (.tmp 44) 63 63 rfl 72 Yba.underlying63 (by rw [hi72]; simp [hs72]) wr.heap.size m ⟨w.heap.size, 0, none⟩ m m rfl rfl y0 72 Hr2.out hy0 cs hcl Hsrc.out H1c.out ?_)
      intro w3 ho3 hr3
      have HF : Hid (w3.heap.size = w.heap.size + 2 + m ∧ cs.length = m ∧ (∀ j, j < m → cs[j]? = some (ptr (w.heap.size + 1 + j))) ∧ Row w3 w.heap.size 72 cs ∧ Row w3 (w.heap.size + 1 + m) 72 cs ∧ (∀ j, j < m → Row w3 (w.heap.size + 1 + j) 76 (memc j 1 j)) ∧ Below w.heap.size w w3) := by
        obtain ⟨hcs, hrow, hmem⟩ := HR.out
        have hsz := HZ.out
        rw [hsz] at hsz2 hbel2 ho3 hr3
        refine ⟨by rw [ho3.size, hsz2]; omega, hcl, hcs, (hrow.below hbel2 (by omega)).only ho3 (by omega), hr3, fun j hj => ((hmem j hj).below hbel2 (by omega)).only ho3 (by omega), ?_⟩
        exact (hbel.trans (hbel2.mono (by omega))).trans (ho3.below (by omega))
      have hsz := HZ.out
      rw [hsz]
      clear HR Hsrc H1c Hr2 hr3 ho3 hbel2 hsz2 hB HZ hbel hlt hm Hr1 hbel1 hsz1 hsz hcl hx0 hy0
      go_upto_region 11 with fail
      obtain ⟨sel, hsel⟩ : ∃ sel, sel = mode % 4 := ⟨_, rfl⟩
      have hselI : (mode : Int) % 4 = (sel : Int) := by omega
      have hsel4 : sel < 4 := by omega
      rw [hselI]
      clear hselI hsel
      go_cut [54] (fun c wx => c = .bool (decide (sel = 0 ∧ 0 < m)) ∧ wx = w3)
      case first =>
        by_cases hs : sel = 0
        · have hsb : ((sel : Int) == 0) = true := by simp [hs]
          by_cases hm : 0 < m
          · have hmb : decide ((0 : Int) < (m : Int)) = true := by simp; omega
            go_wp2
            go_meet
            exact ⟨by simp [hs, hm], rfl⟩
          · have hmb : decide ((0 : Int) < (m : Int)) = false := by simp; omega
            go_wp2
            go_meet
            exact ⟨by simp [hm], rfl⟩
        · have hsb : ((sel : Int) == 0) = false := by simp [hs]
          go_wp2
          go_meet
          exact ⟨by simp [hs], rfl⟩
      case rest =>
        obtain ⟨rfl, hwc⟩ := hcut
        subst wc
        go_upto_if 54 with fail
        go_cut [13] (fun v wx => ∃ (mb p i0 st sl : Nat), v = ptr mb ∧ Row wx mb 76 (memc i0 st sl) ∧ ((st = 1 ∧ sl = p ∧ p < m) ∨ (((st : Int) == 1) = false ∧ p = m)) ∧ (∀ j, j < m → (mb = w.heap.size + 1 + j ↔ j = p)) ∧
          w.heap.size < mb ∧ mb ≠ w.heap.size + 1 + m ∧ mb < wx.heap.size ∧ Below (w.heap.size + 2 + m) w3 wx)
        case first =>
          by_cases hs : sel = 0 ∧ 0 < m
          · obtain ⟨hs, hm⟩ := hs
            obtain ⟨p, hp⟩ : ∃ p, p = pos % m := ⟨_, rfl⟩
            have hpm : p < m := by rw [hp]; exact Nat.mod_lt _ hm
            have hpI : (pos : Int) % (m : Int) = (p : Int) := by rw [hp]; rfl
            have hcell : w3.cell? ⟨w.heap.size, p, none⟩ = some (ptr (w.heap.size + 1 + p)) := by
              rw [HF.out.2.2.2.1.cell]; exact HF.out.2.2.1 p hpm
            unfold ptr at hcell
            have hm0 : ((m : Int) == 0) = false := by simp; omega
            clear hp
            go_wp2
            go_meet
            obtain ⟨hsz, hcl, hcs, hr1, hr2, hmem, hbel⟩ := HF.out
            exact ⟨_, p, p, 1, p, rfl, hmem p hpm, .inl ⟨rfl, rfl, hpm⟩, fun j hj => by omega, by omega, by omega, by omega, Below.refl _ _⟩
          · have hd : decide (sel = 0 ∧ 0 < m) = false := by simp [hs]
            rw [hd]
            clear hs hd
            have hsz := HF.out.1
            have hsel : sel = 0 ∨ sel = 1 ∨ sel = 2 ∨ sel = 3 := by omega
            have HZ : Hid _ := hsz
            clear hsz
            rcases hsel with rfl | rfl | rfl | rfl
            all_goals
              go_wp2
              go_meet
              have hsz := HZ.out
              exact ⟨_, m, m, _, pos, rfl, Row.new _ 76 (memc m _ pos) _ rfl, .inr ⟨by decide, rfl⟩, fun j hj => by omega, by omega, by omega, by simp, (Below.refl _ _).alloc (by omega) _⟩
        case rest =>
          obtain ⟨mb, p, i0, st, sl, rfl, hrm, hst, hmj, hmb1, hmb2, hmb3, hbx⟩ := hcut
          have h4 : wc.cell? ⟨mb, 4, none⟩ = some (.int .u8 st) := by rw [hrm.cell]; rfl
          have h5 : wc.cell? ⟨mb, 5, none⟩ = some (.int .i64 sl) := by rw [hrm.cell]; rfl
          have HG : Hid (_ ∧ _ ∧ _ ∧ _) := ⟨hrm, hst, hmj, hbx⟩
          clear hrm hst hmj hbx
          unfold ptr
          go_wp2
          go_quiet (fail)
          go_wp2_with fail
          refine (new_any seed _).mono ?_
          rintro e w5 ⟨rfl, rfl⟩
          go_wp2_with fail
          generalize hW : (World.alloc (World.alloc (wc.drewN nq) _) _) = W
          have f36 : W.cell? ⟨wc.heap.size + 1, 36, none⟩ = some (.slice (some ⟨w.heap.size, 0, none⟩) m m) := by rw [← hW, World.cell?_alloc_at _ _ _ _ (by simp)]; rfl
          have f34 : W.cell? ⟨wc.heap.size + 1, 34, none⟩ = some (.pointer (some ⟨wc.heap.size, 0, none⟩)) := by rw [← hW, World.cell?_alloc_at _ _ _ _ (by simp)]; rfl
          have fs : Src W wc.heap.size (seed * 18446744073709551616 + 11400714819323198485) := by
            rw [← hW]; unfold Src; rw [Below.heap_alloc _ _ _ (by simp)]; exact src_new seed (wc.drewN nq)
          have fsz : W.heap.size = wc.heap.size + 2 := by rw [← hW]; simp
          have fb : Below wc.heap.size wc W := by rw [← hW]; exact ((below_drewN (Below.refl _ _) nq).alloc (by simp) _).alloc (by simp) _
          clear hW
          obtain ⟨hrm, hst, hmj, hbx⟩ := HG.out
          obtain ⟨hsz, hcl, hcs, hr1, hr2, hmem, hbel⟩ := HF.out
          have hxs := hbx.size
          have frm : Row W mb 76 (memc i0 st sl) := hrm.below fb hmb3
          have fr1 : Row W w.heap.size 72 cs := (hr1.below hbx (by omega)).below fb (by omega)
          have fr2 : Row W (w.heap.size + 1 + m) 72 cs := (hr2.below hbx (by omega)).below fb (by omega)
          have fmem : ∀ j, j < m → Row W (w.heap.size + 1 + j) 76 (memc j 1 j) := fun j hj => ((hmem j hj).below hbx (by omega)).below fb (by omega)
          have fbel : Below w.heap.size w W := (hbel.trans (hbx.mono (by omega))).trans (fb.mono (by omega))
          have g4 : W.cell? ⟨mb, 4, none⟩ = some (.int .u8 st) := by rw [frm.cell]; rfl
          have g5 : W.cell? ⟨mb, 5, none⟩ = some (.int .i64 sl) := by rw [frm.cell]; rfl
          have hp : p ≤ m := by omega
          obtain ⟨d, hd⟩ : ∃ d, ol p m ≠ 0 → d < ol p m ∧ BelowIs seed (ol p m) d := by
            by_cases h0 : ol p m = 0
            · exact ⟨0, fun h => absurd h0 h⟩
            · obtain ⟨r, hr, hB⟩ := below_any seed (ol p m) (by omega) (by have := ol_le p m; omega)
              exact ⟨r, fun _ => ⟨hr, hB⟩⟩
          refine (other_all W (wc.heap.size + 1) w.heap.size mb wc.heap.size st sl m p seed d (w.heap.size + 1) hn' hst f36 g4 g5 f34 fs (by omega) (by omega) (by omega) (fun j hj => by rw [fr1.cell]; exact hcs j hj) hd).mono ?_
          rintro e w7 ⟨rfl, ho7⟩
          have HH : Hid (w7.heap.size = wc.heap.size + 2 ∧ Row w7 mb 76 (memc i0 st sl) ∧ Row w7 w.heap.size 72 cs ∧ Row w7 (w.heap.size + 1 + m) 72 cs ∧ (∀ j, j < m → Row w7 (w.heap.size + 1 + j) 76 (memc j 1 j)) ∧ Below w.heap.size w w7) :=
            ⟨by rw [ho7.size, fsz], frm.only ho7 (by omega), fr1.only ho7 (by omega), fr2.only ho7 (by omega), fun j hj => (fmem j hj).only ho7 (by omega), fbel.trans (ho7.below (by omega))⟩
          have Hd : Hid _ := hd
          have Hcs : Hid _ := hcs
          have Hmj : Hid _ := hmj
          have k36 := (ho7.cell (wc.heap.size + 1) 36 (by omega)).trans f36
          have k4 := (ho7.cell mb 4 (by omega)).trans g4
          have k5 := (ho7.cell mb 5 (by omega)).trans g5
          have hws := hbel.size
          have hwc : w.heap.size + 2 + m ≤ wc.heap.size := by omega
          clear f36 f34 fs fsz fb hrm hst hmj hbx hsz hcl hcs hr1 hr2 hmem hbel frm fr1 fr2 fmem fbel g4 g5 hd ho7 HG HF h4 h5
          generalize hgot : (if ol p m = 0 then Value.pointer none else ptr (w.heap.size + 1 + pk p d)) = got
          have Hgot : Hid _ := hgot
          clear hgot
          have z1 : ((m : Int) != (m : Int)) = false := by simp
          have z2 : ((st : Int) != (st : Int)) = false := by simp
          have z3 : ((sl : Int) != (sl : Int)) = false := by simp
          go_wp2
          go_loopw [20] (fun i wr => ∃ (j q : Nat), j ≤ m ∧ i = .int .i64 j ∧ wr = w7.drewN q) (fun i _ => m - (intOf i).toNat)
          case atStart => exact ⟨0, 0, Nat.zero_le _, rfl, rfl⟩
          case round =>
            obtain ⟨j, q, hj, rfl, rfl⟩ := hrel
            by_cases hlt : j < m
            · have ca : w7.cell? ⟨w.heap.size, j, none⟩ = some (ptr (w.heap.size + 1 + j)) := by rw [HH.out.2.2.1.cell]; exact Hcs.out j hlt
              have cb : w7.cell? ⟨w.heap.size + 1 + m, j, none⟩ = some (ptr (w.heap.size + 1 + j)) := by rw [HH.out.2.2.2.1.cell]; exact Hcs.out j hlt
              have c4 : w7.cell? ⟨w.heap.size + 1 + j, 4, none⟩ = some (.int .u8 1) := by rw [(HH.out.2.2.2.2.1 j hlt).cell]; rfl
              have c5 : w7.cell? ⟨w.heap.size + 1 + j, 5, none⟩ = some (.int .i64 j) := by rw [(HH.out.2.2.2.2.1 j hlt).cell]; rfl
              unfold ptr at ca cb
              have hltI : (j : Int) < (m : Int) := by omega
              have y1 : ((j : Int) != (j : Int)) = false := by simp
              have q72 : ∀ W a, (binOp .neq 72 (.pointer (some a)) (.pointer (some a))).run Yba.prog W = .ok (.bool false) W := fun W a => run_neq_ptr_same W a Yba.underlying72 hi76
              go_wp2
              go_quiet (fail)
              go_wp2
              go_roundw
              case rel => exact ⟨j + 1, _, by omega, by go_num, rfl⟩
              case measure => simp [intOf]; omega
            · clear z1 z2 z3 k36 k4 k5
              go_upto_region 31 with (at_make; refine wpList_make_new _ rfl _ _ 63 rfl 72 i72 _ 1 Yba.underlying63 hi72 hz72 hs72 _ _ _ _ 0 m rfl rfl rfl rfl (Nat.zero_le _) (by rw [hb72]; omega) (by unfold maxLen; omega) ?_)
              intro w8 hsz8 hrow8 hbel8
              have hown8 : w8.ownsRow w7.heap.size 72 1 (.slice (some ⟨w7.heap.size, 0, none⟩) 0 m) 0 [] := by
                refine ⟨by simp, .inr ⟨w7.heap.size, m, _, rfl, Nat.le_refl _, hrow8, Nat.zero_le _, by unfold maxLen; omega, ?_, by simp⟩⟩
                simp [size_madeCells]
              have hbel8' : Below w7.heap.size w7 w8 := (below_drewN (Below.refl _ w7) q).trans hbel8
              have Hown8 : Hid (World.ownsRow _ _ _ _ _ _ _) := hown8
              clear hrow8 hbel8 hown8
              go_wp2
              go_loopw [21, 22] (fun v i wr => ∃ (j : Nat) (xs : List Value), j ≤ m ∧ i = .int .i64 j ∧ v = .slice (some ⟨w7.heap.size, 0, none⟩) (ol p j) m ∧ wr.ownsRow w7.heap.size 72 1 (.slice (some ⟨w7.heap.size, 0, none⟩) (ol p j) m) (ol p j) xs ∧
                (∀ t, t < ol p j → xs[t]? = some (ptr (w.heap.size + 1 + pk p t))) ∧ w7.heap.size < wr.heap.size ∧ Below w7.heap.size w7 wr) (fun _ i _ => m - (intOf i).toNat)
              case atStart => exact ⟨0, [], Nat.zero_le _, rfl, rfl, Hown8.out, fun t ht => by simp [ol] at ht, by omega, hbel8'⟩
              case round =>
                clear hlt hj
                obtain ⟨i, xs, hi, rfl, rfl, hown, hxs, hszr, hbr⟩ := hrel
                obtain ⟨hs7, R1, R2, R3, R4, R5⟩ := HH.out
                have hs7' : wc.heap.size + 2 ≤ w7.heap.size := by omega
                clear hs7
                have hoi := ol_le p i
                obtain ⟨li, hli⟩ : ∃ li, ol p i = li := ⟨_, rfl⟩
                rw [hli] at hown hxs hoi ⊢
                have Hli : Hid _ := hli
                have Hown : Hid (World.ownsRow _ _ _ _ _ _ _) := hown
                have Hxs : Hid _ := hxs
                clear hown hxs hli
                by_cases hlt : i < m
                · have hltI : (i : Int) < (m : Int) := by omega
                  have cb : wr.cell? ⟨w.heap.size + 1 + m, i, none⟩ = some (ptr (w.heap.size + 1 + i)) := by
                    rw [(R3.below hbr (by omega)).cell]; exact Hcs.out i hlt
                  unfold ptr at cb
                  by_cases hip : i = p
                  · have hmb : mb = w.heap.size + 1 + i := (Hmj.out i hlt).2 hip
                    have q72 : ∀ W, (binOp .neq 72 (.pointer (some ⟨w.heap.size + 1 + i, 0, none⟩)) (.pointer (some ⟨mb, 0, none⟩))).run Yba.prog W = .ok (.bool false) W := fun W => by
                      rw [hmb]; exact run_neq_ptr_same W _ Yba.underlying72 hi76
                    have e1 : ol p (i + 1) = li := by rw [← Hli.out, hip, ol_at]
                    have HE : Hid _ := e1
                    clear hmb hip R1 R2 R3 R4 R5 e1
                    go_wp2
                    go_roundw
                    case rel => exact ⟨i + 1, xs, by omega, by go_num, by rw [HE.out], by rw [HE.out]; exact Hown.out, by rw [HE.out]; exact Hxs.out, hszr, hbr⟩
                    case measure => simp [intOf]; omega
                  · have hmb : w.heap.size + 1 + i ≠ mb := fun e => hip ((Hmj.out i hlt).1 e.symm)
                    have q72 : (binOp .neq 72 (.pointer (some ⟨w.heap.size + 1 + i, 0, none⟩)) (.pointer (some ⟨mb, 0, none⟩))).run Yba.prog wr = .ok (.bool true) wr :=
                      run_neq_ptr_rows wr Yba.underlying72 hi76 (by rw [hs76]; omega) hmb ((R4 i hlt).below hbr (by omega)) (R1.below hbr (by omega))
                    have Hip : Hid _ := hip
                    have e1 := ol_ne p i hip
                    have e2 := at_ol p i hip
                    have hle := ol_le p (i + 1)
                    have hle2 : li + 1 ≤ m := by have := Hli.out; omega
                    have HE : Hid (_ ∧ _) := ⟨e1, e2⟩
                    clear hmb hip R1 R2 R3 R4 R5 e1 e2 hle
                    go_wp2_with (at_builtin; refine wpList_append_fits _ rfl _ _ 63 rfl w7.heap.size 72 i72 1 Yba.underlying63 hi72 hs72 w7.heap.size li m xs rfl (Hown.out.alloc _) ⟨wr.heap.size, 0, none⟩ 1 1 [ptr (w.heap.size + 1 + i)] rfl rfl ?_ ?_ (by omega) ?_)
                    · intro t u ht
                      match t, ht with
                      | 0, ht => simp at ht; subst ht; simp [Addr.add, ptr]
                    · intro u hu; simp at hu; subst hu; rfl
                    · intro w9 hown9 hgrow9
                      have Hown9 : Hid (World.ownsRow _ _ _ _ _ _ _) := hown9
                      have hsz9 : w7.heap.size < w9.heap.size := by have := hgrow9.size; simp at this; omega
                      have hb9 : Below w7.heap.size w7 w9 := (hbr.alloc (by omega) _).grown hgrow9 (by simp; omega) (by intro k hk; injection hk with hk; omega)
                      clear hown9 hgrow9
                      go_wp2
                      go_roundw
                      case rel =>
                        have e1 : ol p (i + 1) = li + 1 := by rw [HE.out.1, Hli.out]
                        refine ⟨i + 1, _, by omega, by go_num, by rw [e1], by rw [e1]; exact Hown9.out, ?_, hsz9, hb9⟩
                        intro t ht
                        rw [e1] at ht
                        have hxl : xs.length = li := by have := Hown.out.1; omega
                        by_cases e : t < li
                        · rw [List.getElem?_append_left (by omega)]; exact Hxs.out t e
                        · obtain rfl : t = li := by omega
                          rw [List.getElem?_append_right (by omega), hxl, Nat.sub_self]
                          have := HE.out.2
                          rw [Hli.out] at this
                          rw [this]; rfl
                      case measure => simp [intOf]; omega
                · obtain rfl : i = m := by omega
                  have hgot := Hgot.out
                  rw [Hli.out] at hgot
                  by_cases hl0 : li = 0
                  · rw [if_pos hl0] at hgot
                    subst hgot
                    have hz : ((li : Int) == 0) = true := by simp [hl0]
                    clear R1 R2 R3 R4
                    go_wp2
                    go_ret
                    exact ⟨rfl, R5.trans (hbr.mono (by omega))⟩
                  · rw [if_neg hl0] at hgot
                    subst hgot
                    have hz : ((li : Int) == 0) = false := by simp [hl0]
                    obtain ⟨hd1, hd2⟩ := Hd.out (by rw [Hli.out]; exact hl0)
                    rw [Hli.out] at hd1 hd2
                    have hpl := at_lt p i d (by rw [Hli.out]; exact hd1)
                    have hpn := at_ne p d
                    obtain ⟨t, ht⟩ : ∃ t, pk p d = t := ⟨_, rfl⟩
                    rw [ht] at hpl hpn ⊢
                    have hxd : xs[d]? = some (ptr (w.heap.size + 1 + t)) := by rw [← ht]; exact Hxs.out d hd1
                    have Hd2 : Hid (BelowIs seed li d) := hd2
                    have Ht : Hid _ := ht
                    have HR : Hid (_ ∧ _ ∧ _) := ⟨R1, R4, R5⟩
                    have cd : wr.cell? ⟨w7.heap.size, d, none⟩ = some (ptr (w.heap.size + 1 + t)) := by rw [Hown.out.cellAt d (by omega)]; exact hxd
                    clear R1 R2 R3 R4 R5 hd2 ht hxd
                    unfold ptr at cd ⊢
                    go_wp2_with fail
                    refine (new_any seed _).mono ?_
                    rintro e w10 ⟨rfl, rfl⟩
                    go_wp2_with fail
                    refine (Hd2.out _ _ (src_new seed wr)).mono ?_
                    rintro e w11 ⟨rfl, ho11⟩
                    have cd11 := (ho11.cell w7.heap.size d (by omega)).trans ((World.cell?_alloc_past _ _ _ (by omega)).trans cd)
                    have hbw : Below w7.heap.size w7 w11 := (hbr.alloc (by omega) _).trans (ho11.below (by omega))
                    have q72 : ∀ W a, (binOp .eql 72 (.pointer (some a)) (.pointer (some a))).run Yba.prog W = .ok (.bool true) W := fun W a => run_eql_ptr_same W a Yba.underlying72 hi76
                    have n72 : (binOp .neq 72 (.pointer (some ⟨w.heap.size + 1 + t, 0, none⟩)) (.pointer (some ⟨mb, 0, none⟩))).run Yba.prog w11 = .ok (.bool true) w11 :=
                      run_neq_ptr_rows w11 Yba.underlying72 hi76 (by rw [hs76]; omega) (fun e => hpn ((Hmj.out t hpl).1 e.symm)) ((HR.out.2.1 t hpl).below hbw (by omega)) (HR.out.1.below hbw (by omega))
                    clear ho11 cd
                    go_wp2
                    go_ret
                    exact ⟨rfl, HR.out.2.2.trans (hbw.mono (by omega))⟩
end COther
end Go.Proofs.Ybulkcrdq
