/-
  zzs4660ctarget, zzs4660ccheck.
-/
import Derived.Test.YbulkcrmgDoorWord
namespace Go.Proofs.YbulkcrmgDoor
open Go.RowKit
namespace Follow
open Kit

/-- The members that a target begins with. -/
def m0 (len : Nat) (f : Nat → Nat) (i : Nat) : Nat := (if i < len then f i else 0) ||| 1

theorem made_zero (n : Nat) : (madeCells (Value.int .u64 0).cells (n * 1)).toList = (List.replicate n 0).map u := by
  rw [Nat.mul_one]
  show (madeCells #[Value.int .u64 0] n).toList = _
  rw [toList_madeCells_one]
  simp [u]

theorem list_of_all {n : Nat} {X : List Nat} {g : Nat → Nat} (h1 : X.length = n) (h2 : ∀ j, j < n → X[j]? = some (g j)) : X = (List.range n).map g := by
  apply List.ext_getElem?
  intro j
  by_cases hj : j < n
  · rw [h2 j hj]; simp [hj]
  · rw [List.getElem?_eq_none (by omega), List.getElem?_eq_none (by simp; omega)]

set_option maxRecDepth 20000 in
set_option maxHeartbeats 4000000 in
theorem target_ok (n₀ id : Nat) (a : Option Addr) (len cap : Nat) (f : Nat → Nat) (n : Nat) (q : Bool) (w : World) (hlen : len ≤ 1024) (hn : n ≤ 512) (hf : ∀ i, f i < 18446744073709551616) (hr : Reads n₀ w a len f) (hn₀ : n₀ ≤ w.heap.size) :
    Calls Ybad.prog 4 #[.int .i64 id, .slice a len cap, .int .i64 n, .bool q] w fun e w' => e = .returned (ptr w.heap.size) ∧ w'.heap.size = w.heap.size + 3 ∧ IsRole w' w.heap.size (w.heap.size + 1) (w.heap.size + 2) n q ∧
      Row w' (w.heap.size + 1) 36 (((List.range n).map (m0 len f)).map u) ∧ Row w' (w.heap.size + 2) 36 (((List.range n).map (fun _ => 9223372036854775808)).map u) ∧ Below w.heap.size w w' := by
  obtain ⟨i0, hi, hz0, hz1, hz2⟩ := info_parts Ybad.info36
  have HR : Hid _ := hr
  clear hr
  go_enter Ybad.func4, Ybad.ntmps4
  go_upto_region 2 with fail
  have HB0 := (Below.refl w.heap.size w).alloc (Nat.le_refl _) (.cells #[.string ⟨#[]⟩, .string ⟨#[]⟩, .int .i64 id, .pointer none, .map none, .slice none 0 0, .int .i64 0, .int .i64 0, .map none, .slice none 0 0, .int .i64 0, .int .i64 0, .bool q, .slice none 0 0, .slice none 0 0, .slice none 0 0] 34)
  have HR0 := Row.new w 34 [.string ⟨#[]⟩, .string ⟨#[]⟩, .int .i64 id, .pointer none, .map none, .slice none 0 0, .int .i64 0, .int .i64 0, .map none, .slice none 0 0, .int .i64 0, .int .i64 0, .bool q, .slice none 0 0, .slice none 0 0, .slice none 0 0] _ rfl
  have hsA : (w.alloc (.cells #[.string ⟨#[]⟩, .string ⟨#[]⟩, .int .i64 id, .pointer none, .map none, .slice none 0 0, .int .i64 0, .int .i64 0, .map none, .slice none 0 0, .int .i64 0, .int .i64 0, .bool q, .slice none 0 0, .slice none 0 0, .slice none 0 0] 34)).heap.size = w.heap.size + 1 := by simp
  generalize hW : w.alloc _ = WA at HB0 HR0 hsA ⊢
  clear hW
  obtain ⟨rc0, hrc0⟩ : ∃ rc : List Value, rc = [.string ⟨#[]⟩, .string ⟨#[]⟩, .int .i64 id, .pointer none, .map none, .slice none 0 0, .int .i64 0, .int .i64 0, .map none, .slice none 0 0, .int .i64 0, .int .i64 0, .bool q, .slice none 0 0, .slice none 0 0, .slice none 0 0] := ⟨_, rfl⟩
  rw [← hrc0] at HR0
  have k1 : rc0.length = 16 ∧ rc0[4]? = some (.map none) ∧ rc0[5]? = some (.slice none 0 0) ∧ rc0[7]? = some (.int .i64 0) ∧ rc0[8]? = some (.map none) ∧ rc0[9]? = some (.slice none 0 0) ∧ rc0[11]? = some (.int .i64 0) ∧ rc0[12]? = some (.bool q) := by
    rw [hrc0]; exact ⟨rfl, rfl, rfl, rfl, rfl, rfl, rfl, rfl⟩
  clear hrc0
  obtain ⟨kl, k4, k5, k7, k8, k9, k11, k12⟩ := k1
  go_upto_region 3 with (at_make; refine wpList_make_new _ rfl _ _ _ rfl 36 i0 _ 1 Ybad.underlying22 hi hz0 hz1 .i64 .i64 n n n n rfl rfl rfl rfl (Nat.le_refl _) (by rw [hz2]; omega) (by unfold maxLen; omega) ?_; intro w1 hs1 hrow1 hb1; have hr1 := HR0.below hb1 HR0.lt; have c5 := (hr1.cell 5).trans k5; have f5 := hr1.frozen 5)
  have hsR : WA.heap.size = w.heap.size + 1 := hsA
  rw [hsR] at hs1 hb1 hrow1
  rw [made_zero] at hrow1
  have HB1 : Below w.heap.size w (w1.setCell ⟨w.heap.size, 5, none⟩ (dn (w.heap.size + 1) n)) := (HB0.trans (hb1.mono (by omega))).setCell (p := ⟨w.heap.size, 5, none⟩) (Nat.le_refl _) _
  have HR1 := hr1.set 5 (dn (w.heap.size + 1) n)
  have HX1 := hrow1.setOther ⟨w.heap.size, 5, none⟩ (dn (w.heap.size + 1) n) (by simp)
  have HS1 : (w1.setCell ⟨w.heap.size, 5, none⟩ (dn (w.heap.size + 1) n)).heap.size = w.heap.size + 2 := by rw [((Only.refl _ w1).setCell 5 _).size]; omega
  try rw [hsR]
  generalize hW : w1.setCell _ _ = WB at HB1 HR1 HX1 HS1 ⊢
  clear hW hr1 hrow1 hb1 hs1 c5 f5 HR0 HB0 hsA hsR WA w1
  go_upto_region 4 with (at_make; refine wpList_make_new _ rfl _ _ _ rfl 36 i0 _ 1 Ybad.underlying22 hi hz0 hz1 .i64 .i64 n n n n rfl rfl rfl rfl (Nat.le_refl _) (by rw [hz2]; omega) (by unfold maxLen; omega) ?_; intro w1 hs1 hrow1 hb1; have hr1 := HR1.below hb1 HR1.lt; have c9 : w1.cell? ⟨w.heap.size, 9, none⟩ = some (.slice none 0 0) := (hr1.cell 9).trans (by simp [k9]); have f9 := hr1.frozen 9)
  rw [made_zero] at hrow1
  rw [HS1] at hs1 hb1 hrow1
  have HB2 : Below w.heap.size w (w1.setCell ⟨w.heap.size, 9, none⟩ (dn (w.heap.size + 2) n)) := (HB1.trans (hb1.mono (by omega))).setCell (p := ⟨w.heap.size, 9, none⟩) (Nat.le_refl _) _
  have HR2 := hr1.set 9 (dn (w.heap.size + 2) n)
  have HX2 := (HX1.below hb1 (by omega)).setOther ⟨w.heap.size, 9, none⟩ (dn (w.heap.size + 2) n) (by simp)
  have HY2 := hrow1.setOther ⟨w.heap.size, 9, none⟩ (dn (w.heap.size + 2) n) (by simp)
  have HS2 : (w1.setCell ⟨w.heap.size, 9, none⟩ (dn (w.heap.size + 2) n)).heap.size = w.heap.size + 3 := by rw [((Only.refl _ w1).setCell 9 _).size]; omega
  try rw [HS1]
  generalize hW : w1.setCell _ _ = WC at HB2 HR2 HX2 HY2 HS2 ⊢
  clear hW hr1 hrow1 hb1 hs1 c9 f9 HR1 HB1 HX1 HS1 WB w1
  obtain ⟨rc, hrc⟩ : ∃ rc, rc = (rc0.set 5 (dn (w.heap.size + 1) n)).set 9 (dn (w.heap.size + 2) n) := ⟨_, rfl⟩
  rw [← hrc] at HR2
  have j1 : rc.length = 16 ∧ rc[4]? = some (.map none) ∧ rc[5]? = some (dn (w.heap.size + 1) n) ∧ rc[7]? = some (.int .i64 0) ∧ rc[8]? = some (.map none) ∧ rc[9]? = some (dn (w.heap.size + 2) n) ∧ rc[11]? = some (.int .i64 0) ∧ rc[12]? = some (.bool q) := by
    rw [hrc]; refine ⟨by simp [kl], by simp [k4], by simp [kl], by simp [k7], by simp [k8], by simp [kl], by simp [k11], by simp [k12]⟩
  clear hrc kl k4 k5 k7 k8 k9 k11 k12 rc0
  obtain ⟨kl, k4, k5, k7, k8, k9, k11, k12⟩ := j1
  have HA : Hid (Row WC w.heap.size 34 rc ∧ Row WC (w.heap.size + 1) 36 ((List.replicate n 0).map u) ∧ Row WC (w.heap.size + 2) 36 ((List.replicate n 0).map u) ∧ Below w.heap.size w WC ∧ WC.heap.size = w.heap.size + 3) := ⟨HR2, HX2, HY2, HB2, HS2⟩
  have HF : Hid _ := hf
  clear HR2 HX2 HY2 HB2 HS2 hf
  go_wp2
  go_loopw [10] (fun v wr => ∃ (k : Nat) (X Y : List Nat), k ≤ n ∧ v = .int .i64 k ∧ Row wr w.heap.size 34 rc ∧ Row wr (w.heap.size + 1) 36 (X.map u) ∧ Row wr (w.heap.size + 2) 36 (Y.map u) ∧ X.length = n ∧ Y.length = n ∧
      (∀ j, j < k → X[j]? = some (m0 len f j)) ∧ (∀ j, j < k → Y[j]? = some 9223372036854775808) ∧ Below w.heap.size w wr ∧ wr.heap.size = w.heap.size + 3) (fun v _ => n - (intOf v).toNat)
  case atStart =>
    obtain ⟨a1, a2, a3, a4, a5⟩ := HA.out
    exact ⟨0, _, _, Nat.zero_le _, rfl, a1, a2, a3, by simp, by simp, fun j hj => by omega, fun j hj => by omega, a4, a5⟩
  case round =>
    obtain ⟨k, X, Y, hk, rfl, b1, b2, b3, b4, b5, b6, b7, b8, b9⟩ := hrel
    by_cases hlt : k < n
    · have c5 := (b1.cell 5).trans k5
      have c9 := (b1.cell 9).trans k9
      have hrk : Reads n₀ wr a len f := Reads.below HR.out (b8.mono hn₀)
      have hk5 : (wr.setCell ⟨w.heap.size + 1, k, none⟩ (.int .u64 (m0 len f k : Int))).cell? ⟨w.heap.size, 5, none⟩ = some (dn (w.heap.size + 1) n) := ((b1.setOther _ _ (by simp)).cell 5).trans k5
      have hk9 : (wr.setCell ⟨w.heap.size + 1, k, none⟩ (.int .u64 (m0 len f k : Int))).drew.cell? ⟨w.heap.size, 9, none⟩ = some (dn (w.heap.size + 2) n) := ((b1.setOther _ _ (by simp)).cell 9).trans k9
      have hkY : (wr.setCell ⟨w.heap.size + 1, k, none⟩ (.int .u64 (m0 len f k : Int))).drew.cell? ⟨w.heap.size + 2, k, none⟩ = some (u (Y[k]?.getD 0)) := by
        have h := (b3.setOther ⟨w.heap.size + 1, k, none⟩ (.int .u64 (m0 len f k : Int)) (by simp)).cell k
        have hj : k < Y.length := by omega
        simpa [hj] using h
      have hX : wr.cell? ⟨w.heap.size + 1, k, none⟩ = some (u (X[k]?.getD 0)) := by
        rw [b2.cell k, List.getElem?_map, List.getElem?_eq_getElem (by omega)]; rfl
      have hfX := b2.frozen k
      have hY : wr.cell? ⟨w.heap.size + 2, k, none⟩ = some (u (Y[k]?.getD 0)) := by
        rw [b3.cell k, List.getElem?_map, List.getElem?_eq_getElem (by omega)]; rfl
      have hfY := b3.frozen k
      have g1 : (k : Int) < (n : Int) := by omega
      have g0 : (0 : Int) ≤ (k : Int) := by omega
      have hbits : bits .or .u64 (((if k < len then f k else 0) : Nat) : Int) 1 = ((m0 len f k : Nat) : Int) := u64_or_nat _ 1 (by split; exact HF.out _; omega) (by omega)
      obtain ⟨vk, hvk⟩ : ∃ vk, (if k < len then f k else 0) = vk := ⟨_, rfl⟩
      rw [hvk] at hbits
      have HB : Hid (Row wr w.heap.size 34 rc ∧ Row wr (w.heap.size + 1) 36 (X.map u) ∧ Row wr (w.heap.size + 2) 36 (Y.map u) ∧ (∀ j, j < k → X[j]? = some (m0 len f j)) ∧ (∀ j, j < k → Y[j]? = some 9223372036854775808) ∧ Below w.heap.size w wr ∧ wr.heap.size = w.heap.size + 3) := ⟨b1, b2, b3, b6, b7, b8, b9⟩
      have HRk : Hid _ := hrk
      have hlt0 := hlt
      clear b1 b2 b3 b6 b7 b8 b9 hrk HA hlt
      go_upto_region 7 with fail
      go_region_held3 (fun V => V.cell? ⟨w.heap.size, 5, none⟩ = some (dn (w.heap.size + 1) n)) (first | assumption | exact hk5 | (simp [*]; done))
        (first | (go_at_call 6; refine (at_ok n₀ a len cap f k _ hlen (by omega) (by exact HRk.out)).mono ?_; rintro e w1 ⟨rfl, rfl⟩; rw [hvk]))
      go_wp2
      go_roundw
      case rel =>
        obtain ⟨b1, b2, b3, b6, b7, b8, b9⟩ := HB.out
        have o1 := (Only.refl (w.heap.size + 1) wr).setCell k (.int .u64 (m0 len f k : Int))
        have o2 := (Only.refl (w.heap.size + 2) (wr.setCell ⟨w.heap.size + 1, k, none⟩ (.int .u64 (m0 len f k : Int))).drew).setCell k (.int .u64 9223372036854775808)
        have r1 : Row (wr.setCell ⟨w.heap.size + 1, k, none⟩ (.int .u64 (m0 len f k : Int))).drew (w.heap.size + 1) 36 ((X.set k (m0 len f k)).map u) := by
          rw [List.map_set]; exact b2.set k _
        have r2 : Row (wr.setCell ⟨w.heap.size + 1, k, none⟩ (.int .u64 (m0 len f k : Int))).drew (w.heap.size + 2) 36 (Y.map u) := b3.only o1.drew (show w.heap.size + 2 ≠ w.heap.size + 1 by omega)
        have r0 : Row (wr.setCell ⟨w.heap.size + 1, k, none⟩ (.int .u64 (m0 len f k : Int))).drew w.heap.size 34 rc := b1.only o1.drew (show w.heap.size ≠ w.heap.size + 1 by omega)
        have r0' := r0.only o2 (show w.heap.size ≠ w.heap.size + 2 by omega)
        have r1' := r1.only o2 (show w.heap.size + 1 ≠ w.heap.size + 2 by omega)
        refine ⟨k + 1, X.set k (m0 len f k), Y.set k 9223372036854775808, by omega, by simp, r0', r1', by rw [List.map_set]; exact r2.set k _, by simp [b4], by simp [b5], ?_, ?_, ?_, ?_⟩
        · intro j hj
          rw [List.getElem?_set]
          by_cases e : k = j
          · subst e; simp [b4, hlt0]
          · simp [e]; exact b6 j (by omega)
        · intro j hj
          rw [List.getElem?_set]
          by_cases e : k = j
          · subst e; simp [b5, hlt0]
          · simp [e]; exact b7 j (by omega)
        · exact ((b8.setCell (p := ⟨w.heap.size + 1, k, none⟩) (by simp) _).drew).setCell (p := ⟨w.heap.size + 2, k, none⟩) (by simp) _
        · exact o2.size.trans (o1.size.trans b9)
      case measure => simp [intOf]; omega
    · obtain rfl : k = n := by omega
      have c7 := (b1.cell 7).trans k7
      have c11 := (b1.cell 11).trans k11
      have f7 := b1.frozen 7
      have f11 := b1.frozen 11
      have HB : Hid (Row wr w.heap.size 34 rc ∧ Row wr (w.heap.size + 1) 36 (X.map u) ∧ Row wr (w.heap.size + 2) 36 (Y.map u) ∧ (∀ j, j < k → X[j]? = some (m0 len f j)) ∧ (∀ j, j < k → Y[j]? = some 9223372036854775808) ∧ Below w.heap.size w wr ∧ wr.heap.size = w.heap.size + 3) := ⟨b1, b2, b3, b6, b7, b8, b9⟩
      clear b1 b2 b3 b6 b7 b8 b9 HA hlt
      go_wp2
      go_ret
      obtain ⟨b1, b2, b3, b6, b7, b8, b9⟩ := HB.out
      have o1 := (Only.refl w.heap.size wr).setCell 7 (.int .i64 k)
      have o2 := o1.setCell 11 (.int .i64 k)
      refine ⟨rfl, by rw [o2.size]; exact b9, ⟨_, (b1.set 7 (.int .i64 k)).set 11 (.int .i64 k), by simp [kl], by simp [k4], by simp [k5], by simp [k8], by simp [k9], by simp [k12]⟩, ?_, ?_, b8.trans (o2.below (Nat.le_refl _))⟩
      · rw [← list_of_all b4 b6]; exact b2.only o2 (by omega)
      · rw [← list_of_all b5 b7]; exact b3.only o2 (by omega)

/-- Has one of the first k words a member that o has not? -/
def added (o v : Nat → Nat) (k : Nat) : Bool := (List.range k).any (fun j => decide (andn (v j) (o j) ≠ 0))
theorem added_succ (o v : Nat → Nat) (k : Nat) : added o v (k + 1) = (added o v k || decide (andn (v k) (o k) ≠ 0)) := by simp [added, List.range_succ]

theorem row_at {w : World} {b n : Nat} {g : Nat → Nat} (h : Row w b 36 (((List.range n).map g).map u)) {j : Nat} (hj : j < n) : w.cell? ⟨b, j, none⟩ = some (.int .u64 (g j : Int)) := by
  rw [h.cell j]; simp [hj, u]

set_option maxRecDepth 20000 in
set_option maxHeartbeats 4000000 in
theorem check_ok (r bM bF bO bW n : Nat) (q : Bool) (o v : Nat → Nat) (w : World) (hn : n ≤ 512) (ho : ∀ i, o i < 18446744073709551616) (hv : ∀ i, v i < 18446744073709551616) (hr : IsRole w r bM bF n q)
    (hM : Row w bM 36 (((List.range n).map (fun j => o j ||| v j)).map u)) (hF : Row w bF 36 (((List.range n).map (fun j => 9223372036854775808 ||| andn (v j) (o j))).map u)) (hO : Row w bO 36 (((List.range n).map o).map u)) (hW : Row w bW 36 (((List.range n).map v).map u)) :
    Calls Ybad.prog 8 #[ptr r, dn bO n, dn bW n, .int .i64 n] w fun e w' => e = .returned (.tuple #[.bool true, .bool (added o v n)]) ∧ ∃ k, w' = w.drewN k := by
  obtain ⟨rc, hrr, hrl, h4, h5, h8, h9, h12⟩ := hr
  have c4 := (hrr.cell 4).trans h4
  have c5 := (hrr.cell 5).trans h5
  have c8 := (hrr.cell 8).trans h8
  have c9 := (hrr.cell 9).trans h9
  have he := neqMap
  have HA : Hid (Row w bM 36 (((List.range n).map (fun j => o j ||| v j)).map u) ∧ Row w bF 36 (((List.range n).map (fun j => 9223372036854775808 ||| andn (v j) (o j))).map u) ∧ Row w bO 36 (((List.range n).map o).map u) ∧ Row w bW 36 (((List.range n).map v).map u) ∧ (∀ i, o i < 18446744073709551616) ∧ (∀ i, v i < 18446744073709551616)) := ⟨hM, hF, hO, hW, ho, hv⟩
  clear hM hF hO hW ho hv hrr h4 h5 h8 h9 h12 hrl
  go_enter Ybad.func8, Ybad.ntmps8
  go_wp2
  go_loopw [10, 11] (fun ad i wr => ∃ k d : Nat, k ≤ n ∧ i = .int .i64 k ∧ ad = .bool (added o v k) ∧ wr = w.drewN d) (fun _ i _ => n - (intOf i).toNat)
  case atStart => exact ⟨0, 0, Nat.zero_le _, rfl, rfl, rfl⟩
  case round =>
    obtain ⟨k, d, hk, rfl, rfl, rfl⟩ := hrel
    by_cases hlt : k < n
    · have e1 : w.cell? ⟨bM, k, none⟩ = some (.int .u64 ((o k ||| v k : Nat) : Int)) := row_at HA.out.1 hlt
      have e2 : w.cell? ⟨bF, k, none⟩ = some (.int .u64 ((9223372036854775808 ||| andn (v k) (o k) : Nat) : Int)) := row_at HA.out.2.1 hlt
      have e3 : w.cell? ⟨bO, k, none⟩ = some (.int .u64 (o k : Int)) := row_at HA.out.2.2.1 hlt
      have e4 : w.cell? ⟨bW, k, none⟩ = some (.int .u64 (v k : Int)) := row_at HA.out.2.2.2.1 hlt
      obtain ⟨ok, hok⟩ : ∃ ok, o k = ok := ⟨_, rfl⟩
      obtain ⟨vk, hvk⟩ : ∃ vk, v k = vk := ⟨_, rfl⟩
      have hol : ok < 18446744073709551616 := by rw [← hok]; exact HA.out.2.2.2.2.1 k
      have hvl : vk < 18446744073709551616 := by rw [← hvk]; exact HA.out.2.2.2.2.2 k
      have hb1 : bits .andNot .u64 (vk : Int) (ok : Int) = ((andn vk ok : Nat) : Int) := u64_andNot_nat vk ok hvl hol
      have hb2 : bits .or .u64 (ok : Int) (vk : Int) = ((ok ||| vk : Nat) : Int) := u64_or_nat ok vk hol hvl
      have hb3 : bits .or .u64 9223372036854775808 ((andn vk ok : Nat) : Int) = ((9223372036854775808 ||| andn vk ok : Nat) : Int) := u64_or_nat 9223372036854775808 _ (by omega) (andn_lt vk ok hvl)
      have hsucc : added o v (k + 1) = (added o v k || decide (andn vk ok ≠ 0)) := by rw [added_succ, hok, hvk]
      have HS : Hid _ := hsucc
      rw [hok, hvk] at e1 e2
      rw [hok] at e3
      rw [hvk] at e4
      obtain ⟨y, hy⟩ : ∃ y, andn vk ok = y := ⟨_, rfl⟩
      obtain ⟨z, hz⟩ : ∃ z, ok ||| vk = z := ⟨_, rfl⟩
      obtain ⟨t, ht⟩ : ∃ t, 9223372036854775808 ||| y = t := ⟨_, rfl⟩
      rw [hy] at hb1 hb3 e2
      rw [hz] at hb2 e1
      rw [ht] at hb3 e2
      have HY : Hid _ := hy
      have g1 : (k : Int) < (n : Int) := by omega
      clear hsucc hok hvk HA hy hz ht
      go_upto_region 7 with fail
      go_quiet (fail)
      by_cases hy0 : y = 0
      · have hy1 : ((y : Int) == 0) = true := by simp; omega
        have hb4 : bits .or .u64 9223372036854775808 0 = (t : Int) := by rw [hy0] at hb3; exact hb3
        go_wp2
        go_quiet (fail)
        go_wp2
        go_roundw
        case rel =>
          refine ⟨k + 1, _, by omega, by simp, ?_, rfl⟩
          rw [HS.out, HY.out, hy0]; simp
        case measure => simp [intOf]; omega
      · have hy1 : ((y : Int) == 0) = false := by simp; omega
        go_wp2
        go_quiet (fail)
        go_wp2
        go_roundw
        case rel =>
          refine ⟨k + 1, _, by omega, by simp, ?_, rfl⟩
          rw [HS.out, HY.out]; simp [hy0]
        case measure => simp [intOf]; omega
    · obtain rfl : k = n := by omega
      go_wp2
      go_ret2
      exact ⟨rfl, d, rfl⟩
end Follow
end Go.Proofs.YbulkcrmgDoor
