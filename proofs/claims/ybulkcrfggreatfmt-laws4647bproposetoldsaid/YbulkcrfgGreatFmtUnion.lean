/-
  LawS4647BPropose: slices.BinarySearch at []string (the shelf's contract, laid), union.
-/
import Derived.Test.YbulkcrfgGreatFmtOrd
namespace Go.Proofs
def Ybaz.laysNm226_ren : Go.Shelf.Ren := ⟨fun | 26 => 55 | 33 => 86 | 34 => 87 | 38 => 102 | n => n, fun | 24 => 56 | 40 => 107 | n => n, fun | n => n⟩
theorem Ybaz.laysNm226 : Go.Proofs.Lays2.n26 Ybaz.prog Ybaz.laysNm226_ren := {
  mixed := by kernel_rfl
  f26 := Ybaz.func55.trans (congrArg some (by kernel_rfl))
  f33 := Ybaz.func86.trans (congrArg some (by kernel_rfl))
  f34 := Ybaz.func87.trans (congrArg some (by kernel_rfl))
  f38 := Ybaz.func102.trans (congrArg some (by kernel_rfl))
  t0 := Ybaz.underlying0
  a0 := Ybaz.isAgg0
  z0 := Ybaz.sizeOf0
  v0 := Ybaz.zeroValue0
  t3 := Ybaz.underlying3
  a3 := Ybaz.isAgg3
  z3 := Ybaz.sizeOf3
  v3 := Ybaz.zeroValue3
  t4 := Ybaz.underlying4
  a4 := Ybaz.isAgg4
  z4 := Ybaz.sizeOf4
  v4 := Ybaz.zeroValue4
  t9 := Ybaz.underlying9
  a9 := Ybaz.isAgg9
  z9 := Ybaz.sizeOf9
  v9 := Ybaz.zeroValue9
  t24 := Ybaz.underlying56
  a24 := Ybaz.isAgg56
  z24 := Ybaz.sizeOf56
  v24 := Ybaz.zeroValue56
  t40 := Ybaz.underlying107
  a40 := Ybaz.isAgg107
  z40 := Ybaz.sizeOf107
  v40 := Ybaz.zeroValue107 }
open Go.RowKit Go.Lib in
theorem Ybaz.slices_BinarySearch_string (b off n c : Nat) (Sx : Nat → ByteArray) (x : ByteArray) (w : World) (hbig : n < 4611686018427387904) (hc : ∀ j, j < n → w.cell? ⟨b, off + j, none⟩ = some (.string (Sx j))) :
    Calls Ybaz.prog 55 #[.slice (some ⟨b, off, none⟩) n c, .string x] w fun e w' =>
      e = .returned (.tuple #[.int .i64 (Lib.bsGo (fun t => Op.bytesLess (Sx t).toList x.toList) n 0 n : Nat), .bool (decide (Lib.bsGo (fun t => Op.bytesLess (Sx t).toList x.toList) n 0 n < n ∧ Sx (Lib.bsGo (fun t => Op.bytesLess (Sx t).toList x.toList) n 0 n) = x))]) ∧ ∃ q, w' = w.drewN q :=
  Any2.slices_BinarySearch_string Ybaz.laysNm226 b off n c Sx x w hbig hc
end Go.Proofs
namespace Go.Proofs.YbulkcrfgGreatFmt
open Go.RowKit Go.Sort
namespace Propose
open Kit

theorem str_inj {a b : Bs} (h : (⟨a.toArray⟩ : ByteArray) = ⟨b.toArray⟩) : a = b := by
  injection h with h
  simpa using congrArg Array.toList h

theorem bs_ok (g n cap : Nat) (ss : List Bs) (x : Bs) (w : World) (hs : ss.Pairwise (· < ·)) (hn : ss.length = n) (hb : n ≤ 1000) (hc : ∀ j u, (ss.map str)[j]? = some u → w.cell? ⟨g, j, none⟩ = some u) :
    Calls Ybaz.prog 55 #[.slice (some ⟨g, 0, none⟩) n cap, str x] w fun e w' => (∃ i, e = .returned (.tuple #[num i, .bool (ss.contains x)])) ∧ ∃ q, w' = w.drewN q := by
  obtain ⟨k, h0, h1, h2, h3⟩ := search_at ss x hs
  have hcall := Ybaz.slices_BinarySearch_string g 0 n cap (fun j => ⟨(ss.getD j x).toArray⟩) ⟨x.toArray⟩ w (by omega) (fun j hj => by
    rw [Nat.zero_add]
    refine hc j _ ?_
    rw [List.getElem?_map, List.getElem?_eq_getElem (by omega), List.getD_eq_getElem?_getD, List.getElem?_eq_getElem (by omega)]
    rfl)
  have hless : ∀ t, Op.bytesLess (⟨(ss.getD t x).toArray⟩ : ByteArray).toList (⟨x.toArray⟩ : ByteArray).toList = decide (ss.getD t x < x) := fun t => by
    rw [bytesLess_eq, Lib.toList_data, Lib.toList_data]
  have hbs : Lib.bsGo (fun t => Op.bytesLess (⟨(ss.getD t x).toArray⟩ : ByteArray).toList (⟨x.toArray⟩ : ByteArray).toList) n 0 n = k := by
    refine Lib.bsGo_spec _ k (fun t ht => ?_) (fun t ht => ?_) n 0 n (by omega) (by omega) (by omega)
    · rw [hless]; exact decide_eq_true (h1 t ht)
    · rw [hless]; exact decide_eq_false (h2 t ht)
  refine hcall.mono ?_
  rintro e w' ⟨rfl, hq⟩
  refine ⟨⟨k, ?_⟩, hq⟩
  rw [hbs]
  have : decide (k < n ∧ (⟨(ss.getD k x).toArray⟩ : ByteArray) = ⟨x.toArray⟩) = ss.contains x := by
    rw [Bool.eq_iff_iff, decide_eq_true_eq, List.contains_iff_mem, h3, hn]
    constructor
    · rintro ⟨a, b⟩; exact ⟨a, str_inj b⟩
    · rintro ⟨a, b⟩; exact ⟨a, by rw [b]⟩
  rw [this]

set_option maxRecDepth 20000 in
theorem unionfn_ok (bx g n cap : Nat) (ss : List Bs) (x : Bs) (w : World) (hs : ss.Pairwise (· < ·)) (hn : ss.length = n) (hb : n ≤ 1000) (hc : ∀ j u, (ss.map str)[j]? = some u → w.cell? ⟨g, j, none⟩ = some u) (hx : w.cell? ⟨bx, 0, none⟩ = some (.slice (some ⟨g, 0, none⟩) n cap)) :
    Calls Ybaz.prog 54 #[str x, ptr bx] w fun e w' => e = .returned (.bool (!ss.contains x)) ∧ ∃ q, w' = w.drewN q := by
  have HB : Hid (Calls Ybaz.prog 55 #[.slice (some ⟨g, 0, none⟩) n cap, str x] w fun e w' => (∃ i, e = .returned (.tuple #[num i, .bool (ss.contains x)])) ∧ ∃ q, w' = w.drewN q) := bs_ok g n cap ss x w hs hn hb hc
  clear hs hn hb hc
  generalize ss.contains x = c at HB ⊢
  go_enter Ybaz.func54, Ybaz.ntmps54
  go_wp2_with (go_at_call 55; refine HB.out.mono ?_; rintro e w1 ⟨⟨i, rfl⟩, q, rfl⟩)
  go_ret
  exact ⟨rfl, _, rfl⟩

/-- A slice of the pool's values in order. -/
def Cs (W : World) (v : Value) (S : Nat → Bool) : Prop :=
  ∃ g cap, v = .slice (some ⟨g, 0, none⟩) (ord.filter S).length cap ∧ g < W.heap.size ∧ ∀ j u, (strs (ord.filter S))[j]? = some u → W.cell? ⟨g, j, none⟩ = some u
theorem Cs.below {W W' : World} {v : Value} {S : Nat → Bool} (h : Cs W v S) (hb : Below W.heap.size W W') : Cs W' v S := by
  obtain ⟨g, cap, e, hg, hc⟩ := h
  exact ⟨g, cap, e, Nat.lt_of_lt_of_le hg hb.size, fun j u hu => (hb.cell hg).trans (hc j u hu)⟩
theorem strs_pl (xs : List Nat) : strs xs = (pl xs).map str := by unfold pl; rw [List.map_map]; rfl

theorem add0 (g j : Nat) : (⟨g, 0, none⟩ : Addr).add j = ⟨g, j, none⟩ := by
  cases j <;> simp [Addr.add]
theorem filter_le (S : Nat → Bool) : (ord.filter S).length ≤ 6 := List.length_filter_le S ord

/-- What the sort and the compacting leave. -/
theorem union_end {B : Nat} {w1 : World} {g cap n nn q : Nat} {os : Array Obj} {ss : List Bs} (hown : w1.ownsRow B 9 1 (.slice (some ⟨g, 0, none⟩) n cap) n (ss.map encStr)) {w : World} (hbel : Below B w w1) (hBs : B ≤ w1.heap.size) (hlen : ss.length = n) :
    ∃ w', w' = putRow encStr (Sort.ahead (grow (putRow encStr (Sort.ahead w1 nn) g 0 (ss.mergeSort fun x y => decide (x ≤ y)).toArray) os) q) g 0 (Lib.compact (ss.mergeSort fun x y => decide (x ≤ y)) ++ List.replicate (n - (Lib.compact (ss.mergeSort fun x y => decide (x ≤ y))).length) []).toArray ∧
    w'.ownsRow B 9 1 (.slice (some ⟨g, 0, none⟩) (Lib.compact (ss.mergeSort fun x y => decide (x ≤ y))).length cap) (Lib.compact (ss.mergeSort fun x y => decide (x ≤ y))).length ((Lib.compact (ss.mergeSort fun x y => decide (x ≤ y))).map encStr) ∧ Below B w w' := by
  have hl2 : (ss.mergeSort fun x y => decide (x ≤ y)).length = ss.length := List.length_mergeSort ss
  have hle := Lib.compact_length_le (ss.mergeSort fun x y => decide (x ≤ y))
  subst hlen
  rcases hown.2 with ⟨h0, _⟩ | ⟨g', cap', cur, hv, hbase, hb, h1, h2, h3, h4⟩
  · cases h0
  cases hv
  have hs := ownsRow_sorted (n := nn) (os := os) (ts := ss.mergeSort fun x y => decide (x ≤ y)) hl2 hbase hb h1 h2 h3
  have hc := Lib.ownsRow_putRow (q := q) (k := (Lib.compact (ss.mergeSort fun x y => decide (x ≤ y))).length) (ys := Lib.compact (ss.mergeSort fun x y => decide (x ≤ y)) ++ List.replicate (ss.length - (Lib.compact (ss.mergeSort fun x y => decide (x ≤ y))).length) []) hs (by simp; omega) (by omega)
  rw [List.take_left] at hc
  exact ⟨_, rfl, hc, Lib.below_putRow (hbel.grown (grownBy_sorted _) hBs (fun j hj => by cases hj; exact hbase)) hbase⟩

set_option maxRecDepth 20000 in
set_option maxHeartbeats 2000000 in
/-- Clone, append, Sort, Compact: the end of union. -/
theorem union_ok (va vb : Value) (S : Nat → Bool) (xs : List Nat) (B : Nat) (w : World) (hx : ∀ x ∈ xs, x < 6) (hl : xs.length ≤ 300) (hA : Cs w va S) (hV : w.ownsRow B 9 1 vb xs.length (strs xs)) :
    Calls Ybaz.prog 24 #[va, vb] w fun e w' => ∃ v, e = .returned v ∧ Cs w' v (fun i => S i || xs.contains i) ∧ Below w.heap.size w w' := by
  obtain ⟨ga, ca, rfl, hga, hca⟩ := hA
  obtain ⟨i0, hi0, hz0, hz1, hz2⟩ := info_parts Ybaz.info9
  have h6 := filter_le S
  obtain ⟨n, hn⟩ : ∃ n, n = (ord.filter S).length := ⟨_, rfl⟩
  rw [← hn] at h6 ⊢
  -- the box
  obtain ⟨W, hW⟩ : ∃ W, W = w.alloc (.cells #[.slice (some ⟨ga, 0, none⟩) n ca] 56) := ⟨_, rfl⟩
  have hWB : Below w.heap.size w W := by rw [hW]; exact (Below.refl _ _).alloc (Nat.le_refl _) _
  have hbx : W.cell? ⟨w.heap.size, 0, none⟩ = some (.slice (some ⟨ga, 0, none⟩) n ca) := by
    rw [hW]
    exact (Row.new w 56 [.slice (some ⟨ga, 0, none⟩) n ca] _ rfl).cell 0
  have hWs : w.heap.size < W.heap.size := by rw [hW]; simp
  have hcA : ∀ j u, ((pl (ord.filter S)).map str)[j]? = some u → W.cell? ⟨ga, j, none⟩ = some u := fun j u hu => (hWB.cell hga).trans (hca j u (by rw [strs_pl]; exact hu))
  have hVW : W.ownsRow B 9 1 vb xs.length (strs xs) := hV.kept (row := none) ⟨hWB.os, hWB.tape, hWB.output, hWB.size, fun k hk _ => hWB.block k hk⟩ (by cases vb.ownBlock <;> simp)
  have hgaW : ga < W.heap.size := by omega
  -- the predicate
  have hp : PredAt Ybaz.prog 54 #[ptr w.heap.size] str (fun l => !(pl (ord.filter S)).contains l) W := fun W' x hb =>
    unionfn_ok w.heap.size ga n ca (pl (ord.filter S)) x W' (pl_filter_sorted S) (by rw [hn]; simp [pl]) (by omega) (fun j u hu => (hb.cell hgaW).trans (hcA j u hu)) ((hb.cell hWs).trans hbx)
  -- ContainsFunc
  have hcf : Calls Ybaz.prog 53 #[vb, .func (.func 54) #[] #[ptr w.heap.size]] W fun e w' => e = .returned (.bool ((pl xs).any fun l => !(pl (ord.filter S)).contains l)) ∧ ∃ q, w' = W.drewN q := by
    rcases hVW.2 with ⟨rfl, h0⟩ | ⟨g, cap, cur, rfl, hg, hb, r⟩
    · obtain rfl : xs = [] := List.length_eq_zero_iff.1 h0
      refine (Ybaz.slices_ContainsFunc_empty (α := Bs) none 0 _ W).mono ?_
      rintro e w' ⟨rfl, rfl⟩
      exact ⟨rfl, 0, rfl⟩
    · have h := Ybaz.slices_ContainsFunc (α := Bs) str (fun l => !(pl (ord.filter S)).contains l) 54 #[ptr w.heap.size] (enters_of Ybaz.func54 (by kernel_rfl) rfl) g 0 xs.length cap (pl xs) W hp (by simp [pl]) (by omega) (fun j hj => by
        refine Eq.trans ?_ (hVW.cells (g := g) rfl j (str (pl xs)[j]!) ?_)
        · rw [add0, Nat.zero_add]
        rw [strs_pl, List.getElem?_map, List.getElem?_eq_getElem hj]
        simp [getElem!_pos, hj])
      rw [List.take_of_length_le (by simp [pl])] at h
      exact h
  cases hany : (pl xs).any fun l => !(pl (ord.filter S)).contains l with
  | false =>
    rw [hany] at hcf
    have hsub : ord.filter (fun i => S i || xs.contains i) = ord.filter S := by
      refine List.filter_congr fun i hi => ?_
      rw [Bool.eq_iff_iff, Bool.or_eq_true]
      refine ⟨?_, Or.inl⟩
      rintro (h | h)
      · exact h
      · have hm : poolL i ∈ pl xs := List.mem_map.2 ⟨i, List.contains_iff_mem.1 h, rfl⟩
        have := List.any_eq_false.1 hany (poolL i) hm
        simp only [Bool.not_eq_true, Bool.not_eq_false', List.contains_iff_mem] at this
        exact (mem_pl_filter S (mem_ord.1 hi)).1 this
    have HCF : Hid (Calls Ybaz.prog 53 #[vb, .func (.func 54) #[] #[ptr w.heap.size]] W fun e w' => e = .returned (.bool false) ∧ ∃ q, w' = W.drewN q) := hcf
    have HF : Hid (∀ q, Cs (W.drewN q) (.slice (some ⟨ga, 0, none⟩) n ca) (fun i => S i || xs.contains i) ∧ Below w.heap.size w (W.drewN q)) := fun q => ⟨⟨ga, ca, by rw [hsub, hn], hgaW, fun j u hu => hcA j u (by rw [← strs_pl, ← hsub]; exact hu)⟩, below_drewN' hWB q⟩
    clear hcf hany hsub hp hcA hVW hWB hV hca hx hl hn h6
    go_enter Ybaz.func24, Ybaz.ntmps24
    go_upto_region 1 with fail
    rw [← hW]
    clear hW
    go_wp2_with (go_at_call 53; refine HCF.out.mono ?_; rintro e w1 ⟨rfl, q, rfl⟩)
    go_ret
    exact ⟨_, rfl, HF.out q⟩
  | true =>
    rw [hany] at hcf
    obtain ⟨gb, cb, rfl⟩ : ∃ gb cb, vb = .slice (some ⟨gb, 0, none⟩) xs.length cb := by
      rcases hVW.2 with ⟨rfl, h0⟩ | ⟨g, cap, cur, rfl, hg, hb, r⟩
      · obtain rfl : xs = [] := List.length_eq_zero_iff.1 h0
        simp [pl] at hany
      · exact ⟨g, cap, rfl⟩
    have hx0 : 0 < xs.length := by
      cases xs with
      | nil => simp [pl] at hany
      | cons a l => simp
    have hclone : ∀ q, Calls Ybaz.prog 56 #[.slice (some ⟨ga, 0, none⟩) n ca] (W.drewN q) fun e w' => ∃ v', e = .returned v' ∧ w'.ownsRow W.heap.size 9 1 v' n ((pl (ord.filter S)).map encStr) ∧ Below W.heap.size W w' := fun q => by
      have h := Ybaz.slices_Clone_string ga 0 n ca ((pl (ord.filter S)).map fun l => ⟨l.toArray⟩) (W.drewN q) (by rw [hn]; simp [pl]) (by omega) (fun j hj => by
        rw [Nat.zero_add]
        refine hcA j _ ?_
        have hj' : j < (pl (ord.filter S)).length := by simpa using hj
        rw [List.getElem?_map, List.getElem?_eq_getElem hj', List.getD_eq_getElem?_getD, List.getElem?_map, List.getElem?_eq_getElem hj']
        rfl)
      refine h.mono ?_
      rintro e w' ⟨v', rfl, h1, _, h2⟩
      refine ⟨v', rfl, ?_, ⟨h2.os, h2.tape, h2.output, h2.size, h2.block⟩⟩
      have e1 : (((pl (ord.filter S)).map fun l => (⟨l.toArray⟩ : ByteArray)).take n).map Value.string = (pl (ord.filter S)).map encStr := by
        rw [List.take_of_length_le (by rw [hn]; simp [pl]), List.map_map]
        rfl
      rw [e1] at h1
      exact h1
    have hgb : gb < W.heap.size := by
      rcases hVW.2 with ⟨h, _⟩ | ⟨g, cap, cur, h, hg, hb, r⟩
      · cases h
      · injection h with h1 _ _
        injection h1 with h1
        injection h1 with h1
        subst h1
        exact (Array.getElem?_eq_some_iff.1 hb).1
    have hcb : ∀ j u, (strs xs)[j]? = some u → W.cell? ⟨gb, j, none⟩ = some u := fun j u hu => by rw [← add0]; exact hVW.cells rfl j u hu
    have HCF : Hid (Calls Ybaz.prog 53 #[.slice (some ⟨gb, 0, none⟩) xs.length cb, .func (.func 54) #[] #[ptr w.heap.size]] W fun e w' => e = .returned (.bool true) ∧ ∃ q, w' = W.drewN q) := hcf
    have HCL : Hid (∀ q, Calls Ybaz.prog 56 #[.slice (some ⟨ga, 0, none⟩) n ca] (W.drewN q) fun e w' => ∃ v', e = .returned v' ∧ w'.ownsRow W.heap.size 9 1 v' n ((pl (ord.filter S)).map encStr) ∧ Below W.heap.size W w') := hclone
    have HX : Hid (W.heap.size = w.heap.size + 1 ∧ Below w.heap.size w W ∧ n = (ord.filter S).length ∧ (∀ x ∈ xs, x < 6) ∧ ∀ j u, (strs xs)[j]? = some u → W.cell? ⟨gb, j, none⟩ = some u) := ⟨by rw [hW]; simp, hWB, hn, hx, hcb⟩
    clear hcf hany hp hcA hVW hV hca hn hclone hx hWB hcb
    go_enter Ybaz.func24, Ybaz.ntmps24
    go_upto_region 1 with fail
    rw [← hW]
    clear hW
    go_upto_region 5 with (first
      | (go_at_call 53; refine HCF.out.mono ?_; rintro e w1 ⟨rfl, q, rfl⟩)
      | (go_at_call 56; refine (HCL.out q).mono ?_; rintro e w2 ⟨v1, rfl, ho, hb2⟩; have HO : Hid (w2.ownsRow W.heap.size 9 1 v1 n ((pl (ord.filter S)).map encStr)) := ho; clear ho)
      | (at_builtin; refine wpList_append_own_at _ rfl _ _ 56 rfl W.heap.size 9 i0 _ 1 16 Ybaz.underlying56 hi0 hz0 hz1 hz2 rfl (by decide) v1 n ((pl (ord.filter S)).map encStr) rfl HO.out ⟨gb, 0, none⟩ xs.length cb (strs xs) rfl (by simp) (fun j u hu => by rw [add0]; exact (hb2.cell hgb).trans (HX.out.2.2.2.2 j u hu)) (by simp [Value.oneCell']) (by unfold maxLen; omega) (by omega) hb2.size ?_; intro v2 w3 ho3 hgrow hnil hlies))
    have e0 : (pl (ord.filter S)).map encStr ++ strs xs = (pl (ord.filter S) ++ pl xs).map encStr := by rw [strs_pl, List.map_append]
    rw [e0] at ho3
    have hnn : v2 ≠ .slice none 0 0 := fun e => by
      have := (hnil.1 e).2
      omega
    have hs3 : W.heap.size ≤ w3.heap.size := Nat.le_trans hb2.size hgrow.size
    have hb3 : Below W.heap.size W w3 := hb2.grown hgrow hb2.size (fun k e => (own9 HO.out e).1)
    obtain ⟨g, cap, rfl, hbg, hgl, hncap, hcm, hlen, hH⟩ := Lib.holds_of_ownsRow ho3 hnn
    obtain ⟨ss, hss⟩ : ∃ ss, ss = pl (ord.filter S) ++ pl xs := ⟨_, rfl⟩
    rw [← hss] at ho3 hH hlen
    obtain ⟨m, hm⟩ : ∃ m, m = n + xs.length := ⟨_, rfl⟩
    rw [← hm] at ho3 hlen hncap ⊢
    have hsort := Ybaz.slices_Sort_string g 0 cap ss w3 hH hgl (by omega)
    rw [hlen] at hsort
    have hl2 : (ss.mergeSort fun x y => decide (x ≤ y)).length = m := by rw [List.length_mergeSort]; exact hlen
    have hcomp : ∀ nn os, Calls Ybaz.prog 58 #[.slice (some ⟨g, 0, none⟩) m cap] (grow (putRow encStr (Sort.ahead w3 nn) g 0 (ss.mergeSort fun x y => decide (x ≤ y)).toArray) os) fun e w' => ∃ v, e = .returned v ∧ Cs w' v (fun i => S i || xs.contains i) ∧ Below w.heap.size w w' := fun nn os => by
      have hH2 : Holds encStr (grow (putRow encStr (Sort.ahead w3 nn) g 0 (ss.mergeSort fun x y => decide (x ≤ y)).toArray) os) g 0 (ss.mergeSort fun x y => decide (x ≤ y)).toArray :=
        holds_grow encStr _ os g 0 _ (by simpa [putRow, mapBlock, Sort.ahead] using hgl) (holds_putRow encStr _ g 0 _ _ (holds_ahead encStr w3 nn g 0 _ hH) (by simp))
      have h := Ybaz.slices_Compact_string g 0 cap (ss.mergeSort fun x y => decide (x ≤ y)) _ hH2 (by omega) (by omega)
      rw [hl2] at h
      refine h.mono ?_
      rintro e w' ⟨rfl, q, hw'⟩
      obtain ⟨w4, hw4, h1, h2⟩ := union_end (nn := nn) (q := q) (os := os) ho3 hb3 hs3 hlen
      rw [← hw4] at hw'
      subst hw'
      have hue := union_eq S xs HX.out.2.2.2.1
      rw [← hss] at hue
      rw [hue] at h1 ⊢
      refine ⟨_, rfl, ⟨g, cap, ?_, ?_, ?_⟩, HX.out.2.1.trans (h2.mono HX.out.2.1.size)⟩
      · rw [pl, List.length_map]
      · rcases h1.2 with ⟨h, _⟩ | ⟨g', cap', cur, h, hg, hb, r⟩
        · cases h
        · injection h with h1 _ _
          injection h1 with h1
          injection h1 with h1
          subst h1
          exact (Array.getElem?_eq_some_iff.1 hb).1
      · intro j u hu
        rw [← add0]
        refine h1.cells rfl j u ?_
        rw [strs_pl] at hu
        exact hu
    have HS : Hid (Calls Ybaz.prog 57 #[.slice (some ⟨g, 0, none⟩) m cap] w3 fun e w' => e = .returned (.tuple #[]) ∧ ∃ n os, w' = grow (putRow encStr (Sort.ahead w3 n) g 0 (ss.mergeSort fun x y => decide (x ≤ y)).toArray) os) := hsort
    have HCo : Hid (∀ nn os, Calls Ybaz.prog 58 #[.slice (some ⟨g, 0, none⟩) m cap] (grow (putRow encStr (Sort.ahead w3 nn) g 0 (ss.mergeSort fun x y => decide (x ≤ y)).toArray) os) fun e w' => ∃ v, e = .returned v ∧ Cs w' v (fun i => S i || xs.contains i) ∧ Below w.heap.size w w') := hcomp
    clear hcomp hsort hH hlen hl2 hss hm ho3 hnil hgrow hlies e0 hb3
    go_wp2_with (first
      | (go_at_call 57; refine HS.out.mono ?_; rintro e w4 ⟨rfl, nn, os, rfl⟩)
      | (go_at_call 58; refine (HCo.out nn os).mono ?_; rintro e w5 ⟨v, rfl, hcs, hbl⟩))
    go_ret
    exact ⟨_, rfl, hcs, hbl⟩
end Propose
end Go.Proofs.YbulkcrfgGreatFmt
