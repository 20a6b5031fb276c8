/-
  (*set).or on a set in the dense form whose word is not zero; (*Members).addWord.
-/
import Derived.Test.YbulkcrmgDoorSmall
import Derived.Deep.RegionHeld3
import Derived.Deep.Draws
import Derived.RangeFuncBox
import Derived.Maps.AppendAt
namespace Go.Proofs.YbulkcrmgDoor
open Go.RowKit
namespace Follow
open Kit

/-- x &^ h on words of 64 bits. -/
def andn (x h : Nat) : Nat := x &&& (18446744073709551615 - h)
theorem andn_testBit (x h j : Nat) (hh : h < 18446744073709551616) : (andn x h).testBit j = (x.testBit j && (decide (j < 64) && !h.testBit j)) := by
  unfold andn
  rw [Nat.testBit_and, show 18446744073709551615 - h = 2 ^ 64 - (h + 1) by omega, Nat.testBit_two_pow_sub_succ (by omega)]
theorem testBit_ge {x : Nat} (hx : x < 18446744073709551616) {j : Nat} (hj : 64 ≤ j) : x.testBit j = false :=
  Nat.testBit_lt_two_pow (Nat.lt_of_lt_of_le hx (by have := Nat.pow_le_pow_right (n := 2) (by omega) hj; omega))
theorem andn_lt (x h : Nat) (hx : x < 18446744073709551616) : andn x h < 18446744073709551616 := Nat.lt_of_le_of_lt Nat.and_le_left hx
theorem or_lt {x y : Nat} (hx : x < 18446744073709551616) (hy : y < 18446744073709551616) : x ||| y < 18446744073709551616 := Nat.or_lt_two_pow (n := 64) hx hy
theorem or_andn (x h : Nat) (hx : x < 18446744073709551616) (hh : h < 18446744073709551616) : h ||| andn x h = h ||| x := by
  apply Nat.eq_of_testBit_eq
  intro j
  rw [Nat.testBit_or, Nat.testBit_or, andn_testBit x h j hh]
  by_cases hj : j < 64
  · cases h.testBit j <;> cases x.testBit j <;> simp [hj]
  · simp [testBit_ge hx (show 64 ≤ j by omega)]
theorem or_of_andn {x h : Nat} (hx : x < 18446744073709551616) (hh : h < 18446744073709551616) (e : andn x h = 0) : h ||| x = h := by
  rw [← or_andn x h hx hh, e]; simp

theorem row_reads {w : World} {b n : Nat} {M : List Nat} (hb : Row w b 36 (M.map u)) (hl : M.length = n) : Reads (b + 1) w (some ⟨b, 0, none⟩) n (fun j => (M[j]?).getD 0) := fun _ => ⟨b, 0, rfl, by omega, fun j hj => by
    rw [Nat.zero_add, hb.cell j]
    have hj' : j < M.length := by omega
    simp [hj']⟩
theorem set_same {M : List Nat} {i mi : Nat} (h : M[i]? = some mi) : M.set i mi = M := by
  apply List.ext_getElem?
  intro j
  rw [List.getElem?_set]
  by_cases e : i = j
  · subst e
    obtain ⟨hlt, hx⟩ := List.getElem?_eq_some_iff.1 h
    simp [hlt, hx]
  · simp [e]

set_option maxRecDepth 20000 in
/-- (*set).or where the word of index i is not zero: no memory is taken. -/
theorem or_ok (r k b n : Nat) (M : List Nat) (i x mi : Nat) (bud : Value) (w : World) (hn : n ≤ 1024) (hi : i < n) (hl : M.length = n) (hmi : M[i]? = some mi) (hm0 : mi ≠ 0) (hm1 : mi < 18446744073709551616) (hx : x < 18446744073709551616)
    (h0 : w.cell? ⟨r, k, none⟩ = some (.map none)) (h1 : w.cell? ⟨r, k + 1, none⟩ = some (.slice (some ⟨b, 0, none⟩) n n)) (hb : Row w b 36 (M.map u)) :
    Calls Ybad.prog 24 #[.pointer (some ⟨r, k, none⟩), .int .i64 i, u x, bud] w fun e w' => e = .returned (.bool true) ∧ Only b w w' ∧ Row w' b 36 ((M.set i (mi ||| x)).map u) := by
  have he := neqMap
  have hc := hb.cell i
  have hf := hb.frozen i
  simp only [List.getElem?_map, hmi, Option.map_some] at hc
  have hlt : (i : Int) < (n : Int) := by omega
  have hr := row_reads hb hl
  have hmi' : (M[i]?).getD 0 = mi := by rw [hmi]; rfl
  have hbits : bits .andNot .u64 (x : Int) (mi : Int) = ((andn x mi : Nat) : Int) := u64_andNot_nat x mi hx hm1
  have HB : Hid _ := hb
  clear hb
  go_enter Ybad.func24, Ybad.ntmps24
  go_wp2_with fail
  refine (word_ok r k _ n n _ i w (b + 1) hn (by omega) h0 h1 hr).mono ?_
  rintro e w' ⟨rfl, rfl⟩
  rw [if_pos hi, hmi']
  by_cases hz : andn x mi = 0
  · have hz' : bits .andNot .u64 (x : Int) (mi : Int) = 0 := by rw [hbits, hz]; rfl
    go_wp2
    go_ret
    refine ⟨rfl, Only.refl _ _, ?_⟩
    rw [or_of_andn hx hm1 hz]
    rw [set_same hmi]
    exact HB.out
  · have hz' : ((bits .andNot .u64 (x : Int) (mi : Int)) == 0) = false := by rw [hbits]; simp; omega
    have hm' : ((mi : Int) == 0) = false := by simp; omega
    go_wp2
    go_ret
    refine ⟨rfl, (Only.refl _ _).setCell _ _, ?_⟩
    have hR : Row w' b 36 (M.map u) := HB.out
    have h := hR.set i (.int .u64 (bits .or .u64 (mi : Int) (x : Int)))
    rw [u64_or_nat mi x hm1 hx] at h ⊢
    rw [List.map_set]
    exact h

/-- Outside the blocks bs, and the row of the slice cv, the world W' is as W was; the row of cv' is that of cv, or it is new. -/
structure Fr (bs : List Nat) (cv cv' : Value) (W W' : World) : Prop where
  os : W'.os = W.os
  tape : W'.tape = W.tape
  output : W'.output = W.output
  size : W.heap.size ≤ W'.heap.size
  block : ∀ k o, W.heap[k]? = some o → k ∉ bs → some k ≠ cv.ownBlock → W'.heap[k]? = some o
  own : cv'.ownBlock = cv.ownBlock ∨ ∃ g, cv'.ownBlock = some g ∧ W.heap.size ≤ g
theorem Fr.refl (bs : List Nat) (cv : Value) (W : World) : Fr bs cv cv W W := ⟨rfl, rfl, rfl, Nat.le_refl _, fun _ _ h _ _ => h, .inl rfl⟩
theorem Fr.trans {bs : List Nat} {c1 c2 c3 : Value} {A B C : World} (h : Fr bs c1 c2 A B) (k : Fr bs c2 c3 B C) : Fr bs c1 c3 A C :=
  ⟨k.os.trans h.os, k.tape.trans h.tape, k.output.trans h.output, Nat.le_trans h.size k.size, fun i o hi hb ht => k.block i o (h.block i o hi hb ht) hb (by
    rcases h.own with e | ⟨g, e, hg⟩
    · rw [e]; exact ht
    · rw [e]; intro e2; cases e2; have := (Array.getElem?_eq_some_iff.1 hi).1; omega), by
    rcases k.own with e | ⟨g, e, hg⟩
    · rw [e]; exact h.own
    · exact .inr ⟨g, e, Nat.le_trans h.size hg⟩⟩
theorem Fr.only {bs : List Nat} {cv : Value} {b : Nat} {W W' : World} (h : Only b W W') (hb : b ∈ bs) : Fr bs cv cv W W' :=
  ⟨h.os, h.tape, h.output, by rw [h.size]; exact Nat.le_refl _, fun k o hk hn _ => (h.block k (fun e => hn (e ▸ hb))).trans hk, .inl rfl⟩
theorem Fr.setCell {bs : List Nat} {cv : Value} (W : World) (b o : Nat) (v : Value) (hb : b ∈ bs) : Fr bs cv cv W (W.setCell ⟨b, o, none⟩ v) := Fr.only ((Only.refl b W).setCell o v) hb
theorem Fr.alloc {bs : List Nat} {cv : Value} (W : World) (o : Obj) : Fr bs cv cv W (W.alloc o) :=
  ⟨rfl, rfl, rfl, by simp, fun k _ hk _ _ => (Below.heap_alloc W o k (Array.getElem?_eq_some_iff.1 hk).1).trans hk, .inl rfl⟩
theorem Fr.row {bs : List Nat} {cv cv' : Value} {W W' : World} (h : Fr bs cv cv' W W') {g : Nat} {t : TypeId} {cs : List Value} (hr : Row W g t cs) (hg : g ∉ bs) (ht : some g ≠ cv.ownBlock) : Row W' g t cs :=
  h.block g _ hr hg ht
theorem Fr.mono {bs bs' : List Nat} {cv cv' : Value} {W W' : World} (h : Fr bs cv cv' W W') (hs : ∀ b ∈ bs, b ∈ bs') : Fr bs' cv cv' W W' :=
  ⟨h.os, h.tape, h.output, h.size, fun k o hk hb ht => h.block k o hk (fun e => hb (hs k e)) ht, h.own⟩

theorem Row.ne {w : World} {g h : Nat} {t t' : TypeId} {cs ds : List Value} (hg : Row w g t cs) (hh : Row w h t' ds) (ht : t ≠ t') : g ≠ h := fun e => by
  subst e
  unfold Row at hg hh
  rw [hg] at hh
  cases hh
  exact ht rfl

theorem own_block {w : World} {n₀ k : Nat} {cv : Value} {cs : List Value} (h : w.ownsRow n₀ 23 1 cv k cs) {b : Nat} (hb : cv.ownBlock = some b) : n₀ ≤ b ∧ ∃ c, w.heap[b]? = some (.cells c 23 (0, 0)) := by
  rcases h.2 with ⟨rfl, _⟩ | ⟨g, cap, cur, rfl, hg, hc, _⟩
  · simp [Value.ownBlock] at hb
  · obtain rfl : g = b := by simpa [Value.ownBlock] using hb
    exact ⟨hg, cur, hc⟩
theorem own_only {w w' : World} {n₀ k b : Nat} {cv : Value} {cs ds : List Value} {t : TypeId} (h : w.ownsRow n₀ 23 1 cv k cs) (ho : Only b w w') (hb : Row w b t ds) (ht : t ≠ 23) : w'.ownsRow n₀ 23 1 cv k cs := by
  refine h.kept (row := some b) ⟨ho.os, ho.tape, ho.output, by rw [ho.size]; exact Nat.le_refl _, fun k _ hk => ho.block k (fun e => hk (by rw [e]))⟩ (.inr fun e => ?_)
  obtain ⟨_, c, hc⟩ := own_block h e
  unfold Row at hb
  rw [hc] at hb
  cases hb
  exact ht rfl
theorem Fr.grown {bs : List Nat} {W W' : World} {cv cv' : Value} (hg : W.grownBy W' cv.ownBlock) (ho : cv'.ownBlock = cv.ownBlock ∨ cv'.ownBlock = some W.heap.size) : Fr bs cv cv' W W' :=
  ⟨hg.os, hg.tape, hg.output, hg.size, fun i _ hi _ ht => (hg.block i (Array.getElem?_eq_some_iff.1 hi).1 ht).trans hi, ho.imp id (fun e => ⟨_, e, Nat.le_refl _⟩)⟩
theorem own_ne {w : World} {n₀ k g : Nat} {cv : Value} {cs ds : List Value} {t : TypeId} (h : w.ownsRow n₀ 23 1 cv k cs) (hr : Row w g t ds) (ht : t ≠ 23) : some g ≠ cv.ownBlock := fun e => by
  obtain ⟨_, c, hc⟩ := own_block h e.symm
  unfold Row at hr
  rw [hc] at hr
  cases hr
  exact ht rfl
theorem Ybad.info23 : (Ybad.prog.info? 23).map (fun i => (i.zero, i.size, i.bytes)) = some (some (.pointer none), 1, 8) := by kernel_rfl

abbrev ptr (b : Nat) : Value := .pointer (some ⟨b, 0, none⟩)
abbrev dn (b n : Nat) : Value := .slice (some ⟨b, 0, none⟩) n n

/-- The role at block r: its two sets dense, over the rows bM and bF. -/
def IsRole (W : World) (r bM bF n : Nat) (q : Bool) : Prop :=
  ∃ rc : List Value, Row W r 34 rc ∧ rc.length = 16 ∧ rc[4]? = some (.map none) ∧ rc[5]? = some (dn bM n) ∧ rc[8]? = some (.map none) ∧ rc[9]? = some (dn bF n) ∧ rc[12]? = some (.bool q)
/-- The Members at block m. -/
def IsMem (W : World) (m bud : Nat) (cv : Value) : Prop :=
  ∃ mc : List Value, Row W m 55 mc ∧ mc.length = 18 ∧ mc[6]? = some cv ∧ mc[17]? = some (ptr bud)

/-- cs, and v behind it where b. -/
def more (b : Bool) (cs : List Value) (v : Value) : List Value := match b with | true => cs ++ [v] | false => cs

structure St (W : World) (n₀ m bud r bM bF n : Nat) (M F : List Nat) (q : Bool) (cv : Value) (cs : List Value) : Prop where
  role : IsRole W r bM bF n q
  mem : Row W bM 36 (M.map u)
  frs : Row W bF 36 (F.map u)
  mm : IsMem W m bud cv
  own : W.ownsRow n₀ 23 1 cv cs.length cs
  nM : M.length = n
  nF : F.length = n
  okM : ∀ (j x : Nat), M[j]? = some x → x ≠ 0 ∧ x < 18446744073709551616
  okF : ∀ (j x : Nat), F[j]? = some x → x ≠ 0 ∧ x < 18446744073709551616
  size : n₀ ≤ W.heap.size

theorem ok_set {M : List Nat} {i v : Nat} (h : ∀ (j x : Nat), M[j]? = some x → x ≠ 0 ∧ x < 18446744073709551616) (h0 : v ≠ 0) (h1 : v < 18446744073709551616) : ∀ (j x : Nat), (M.set i v)[j]? = some x → x ≠ 0 ∧ x < 18446744073709551616 := by
  intro j x hj
  rw [List.getElem?_set] at hj
  by_cases e : i = j
  · subst e
    by_cases hl : i < M.length
    · simp [hl] at hj; subst hj; exact ⟨h0, h1⟩
    · simp [hl] at hj
  · simp [e] at hj; exact h j x hj
theorem ne_or {m y : Nat} (h : m ≠ 0) : m ||| y ≠ 0 := by
  have := @Nat.left_le_or m y
  omega

set_option maxRecDepth 20000 in
set_option maxHeartbeats 8000000 in
/-- (*Members).addWord on a role whose words are not zero: no memory is taken. -/
theorem addWord_ok (n₀ m bud r bM bF n : Nat) (M F : List Nat) (q : Bool) (cv : Value) (cs : List Value) (i x mi fi : Nat) (W : World) (hn : n ≤ 1024) (hi : i < n) (hx : x < 18446744073709551616) (hcs : cs.length ≤ 10)
    (hne : bM ≠ bF) (hmi : M[i]? = some mi) (hfi : F[i]? = some fi) (hS : St W n₀ m bud r bM bF n M F q cv cs) :
    Calls Ybad.prog 15 #[ptr m, ptr r, .int .i64 i, u x] W fun e W' => e = .returned (.bool true) ∧
      ∃ cv', St W' n₀ m bud r bM bF n (M.set i (mi ||| x)) (F.set i (fi ||| andn x mi)) (q || decide (andn x mi ≠ 0)) cv' (more (!q && decide (andn x mi ≠ 0)) cs (ptr r)) ∧ Fr [r, bM, bF, m] cv cv' W W' := by
  obtain ⟨⟨rc, hrr, hrl, h4, h5, h8, h9, h12⟩, hM, hF, ⟨mc, hmm, hml, m6, m17⟩, hown, nM, nF, okM, okF, hsz⟩ := hS
  obtain ⟨hm0, hm1⟩ := okM _ _ hmi
  obtain ⟨hf0, hf1⟩ := okF _ _ hfi
  have c4 := (hrr.cell 4).trans h4
  have c5 := (hrr.cell 5).trans h5
  have c8 := (hrr.cell 8).trans h8
  have c9 := (hrr.cell 9).trans h9
  have c12 := (hrr.cell 12).trans h12
  have f12 := hrr.frozen 12
  have d6 := (hmm.cell 6).trans m6
  have d17 := (hmm.cell 17).trans m17
  have g6 := hmm.frozen 6
  have hbits : bits .andNot .u64 (x : Int) (mi : Int) = ((andn x mi : Nat) : Int) := u64_andNot_nat x mi hx hm1
  have hrM := row_reads hM nM
  have hmi' : (M[i]?).getD 0 = mi := by rw [hmi]; rfl
  have HA : Hid (Row W r 34 rc ∧ Row W bM 36 (M.map u) ∧ Row W bF 36 (F.map u) ∧ Row W m 55 mc ∧ W.ownsRow n₀ 23 1 cv cs.length cs) := ⟨hrr, hM, hF, hmm, hown⟩
  clear hrr hM hF hmm hown
  go_enter Ybad.func15, Ybad.ntmps15
  go_wp2_with fail
  refine (word_ok r 4 _ n n _ i W (bM + 1) hn (by omega) c4 c5 hrM).mono ?_
  rintro e w' ⟨rfl, rfl⟩
  rw [if_pos hi, hmi']
  by_cases hz : andn x mi = 0
  · have hz' : bits .andNot .u64 (x : Int) (mi : Int) = 0 := by rw [hbits, hz]; rfl
    go_wp2
    go_ret
    obtain ⟨hrr, hM, hF, hmm, hown⟩ := HA.out
    refine ⟨rfl, cv, ?_, Fr.refl _ _ _⟩
    rw [or_of_andn hx hm1 hz, set_same hmi, hz, Nat.or_zero, set_same hfi]
    simp only [ne_eq, not_true_eq_false, decide_false, Bool.or_false, Bool.and_false]
    exact ⟨⟨rc, hrr, hrl, h4, h5, h8, h9, h12⟩, hM, hF, ⟨mc, hmm, hml, m6, m17⟩, hown, nM, nF, okM, okF, hsz⟩
  · have hz' : ((bits .andNot .u64 (x : Int) (mi : Int)) == 0) = false := by rw [hbits]; simp; omega
    have hy : andn x mi < 18446744073709551616 := andn_lt x mi hx
    obtain ⟨y, hyd⟩ : ∃ y, andn x mi = y := ⟨_, rfl⟩
    rw [hyd] at hbits hz hy
    go_upto_region 4 with fail
    go_cut [41] (fun v wx => v = .bool false ∧ Row wx bM 36 ((M.set i (mi ||| y)).map u) ∧ Row wx bF 36 ((F.set i (fi ||| y)).map u) ∧ Row wx r 34 rc ∧ Row wx m 55 mc ∧ wx.ownsRow n₀ 23 1 cv cs.length cs ∧ n₀ ≤ wx.heap.size ∧ Fr [r, bM, bF, m] cv cv w' wx)
    case first =>
      clear hrM
      have hrM : r ≠ bM := Row.ne HA.out.1 HA.out.2.1 (by decide)
      have hmF : m ≠ bF := Row.ne HA.out.2.2.2.1 HA.out.2.2.1 (by decide)
      have hmM : m ≠ bM := Row.ne HA.out.2.2.2.1 HA.out.2.1 (by decide)
      clear okM okF c12 f12 d6 g6 m6 m17 h4 h5 h8 h9 h12 hml hrl hmi' hbits hz hz'
      go_region_held3 (fun V => V.cell? ⟨m, 17, none⟩ = some (ptr bud)) (first | assumption | (simp [*]; done))
        (first
          | (go_at_call 24; (have _gate := ho1); refine (or_ok r 8 bF n F i y fi (ptr bud) _ hn hi nF hfi hf0 hf1 hy ?_ ?_ ?_).mono ?_; exact (ho1.cell r 8 hrM).trans c8; exact (ho1.cell r 9 hrM).trans c9; exact Row.only HA.out.2.2.1 ho1 (Ne.symm hne); rintro e w2 ⟨rfl, ho2, hr2⟩; have d17'' := (ho2.cell m 17 hmF).trans d17')
          | (go_at_call 24; refine (or_ok r 4 bM n M i y mi (ptr bud) _ hn hi nM hmi hm0 hm1 hy ?_ ?_ ?_).mono ?_; exact c4; exact c5; exact HA.out.2.1; rintro e w1 ⟨rfl, ho1x, hr1⟩; have ho1 := ((Only.refl bM w').drew).trans ho1x; clear ho1x; have d17' := (ho1.cell m 17 hmM).trans d17))
      go_wp2
      go_meet
      obtain ⟨hrr, hM, hF, hmm, hown⟩ := HA.out
      have hrF : r ≠ bF := Row.ne hrr hF (by decide)
      exact ⟨rfl, hr1.only ho2 hne, hr2, (hrr.only ho1 hrM).only ho2 hrF, (hmm.only ho1 hmM).only ho2 hmF, own_only (own_only hown ho1 hM (by decide)) ho2 (hF.only ho1 (Ne.symm hne)) (by decide), by rw [ho2.size, ho1.size]; exact hsz,
        (Fr.only ho1 (by simp)).trans (Fr.only ho2 (by simp))⟩
    case rest =>
      obtain ⟨rfl, hM2, hF2, hrr2, hmm2, hown2, hsz2, hfr2⟩ := hcut
      have c12' := (hrr2.cell 12).trans h12
      have f12' := hrr2.frozen 12
      have HX : Hid (Row wc bM 36 ((M.set i (mi ||| y)).map u) ∧ Row wc bF 36 ((F.set i (fi ||| y)).map u) ∧ Row wc r 34 rc ∧ Row wc m 55 mc ∧ wc.ownsRow n₀ 23 1 cv cs.length cs ∧ Fr [r, bM, bF, m] cv cv w' wc) := ⟨hM2, hF2, hrr2, hmm2, hown2, hfr2⟩
      have d6' := (hmm2.cell 6).trans m6
      have g6' := hmm2.frozen 6
      have HO : Hid ((∀ (j x : Nat), M[j]? = some x → x ≠ 0 ∧ x < 18446744073709551616) ∧ (∀ (j x : Nat), F[j]? = some x → x ≠ 0 ∧ x < 18446744073709551616)) := ⟨okM, okF⟩
      clear hM2 hF2 hrr2 hmm2 hown2 hfr2 HA c4 c5 c8 c9 c12 f12 d6 d17 g6 hrM okM okF
      cases q with
      | true =>
        go_wp2
        go_ret
        obtain ⟨hM2, hF2, hrr2, hmm2, hown2, hfr2⟩ := HX.out
        refine ⟨rfl, cv, ?_, hfr2⟩
        have e1 : mi ||| x = mi ||| y := by rw [← hyd, or_andn x mi hx hm1]
        rw [hyd, e1]
        simp only [Bool.true_or, Bool.not_true, Bool.false_and, more]
        exact ⟨⟨rc, hrr2, hrl, h4, h5, h8, h9, h12⟩, hM2, hF2, ⟨mc, hmm2, hml, m6, m17⟩, hown2, by simp [nM], by simp [nF], ok_set HO.out.1 (ne_or hm0) (or_lt hm1 hy), ok_set HO.out.2 (ne_or hf0) (or_lt hf1 hy), hsz2⟩
      | false =>
        obtain ⟨i0, hi0, hz0, hz1, hz2⟩ := info_parts Ybad.info23
        obtain ⟨W2, hW2⟩ : ∃ W2, (wc.setCell ⟨r, 12, none⟩ (.bool true)).alloc (.cells #[ptr r] 23) = W2 := ⟨_, rfl⟩
        have HC : Hid (W2.ownsRow n₀ 23 1 cv cs.length cs ∧ (∀ j u, [ptr r][j]? = some u → W2.cell? ((⟨wc.heap.size, 0, none⟩ : Addr).add j) = some u) ∧ n₀ ≤ W2.heap.size ∧ Row W2 bM 36 ((M.set i (mi ||| y)).map u) ∧ Row W2 bF 36 ((F.set i (fi ||| y)).map u) ∧ Row W2 r 34 (rc.set 12 (.bool true)) ∧ Row W2 m 55 mc ∧ Fr [r, bM, bF, m] cv cv w' W2) := by
          obtain ⟨hM2, hF2, hrr2, hmm2, hown2, hfr2⟩ := HX.out
          have hs : (wc.setCell ⟨r, 12, none⟩ (.bool true)).heap.size = wc.heap.size := ((Only.refl r wc).setCell 12 (.bool true)).size
          have hn := cell_one_new (wc.setCell ⟨r, 12, none⟩ (.bool true)) (ptr r) 23
          rw [hs] at hn
          rw [← hW2]
          exact ⟨(own_only hown2 ((Only.refl r wc).setCell 12 (.bool true)) hrr2 (by decide)).alloc _, hn, by rw [World.size_alloc, hs]; omega, (hM2.setOther _ _ (Ne.symm (Row.ne hrr2 hM2 (by decide)))).alloc _, (hF2.setOther _ _ (Ne.symm (Row.ne hrr2 hF2 (by decide)))).alloc _,
            (hrr2.set 12 _).alloc _, (hmm2.setOther _ _ (Ne.symm (Row.ne hrr2 hmm2 (by decide)))).alloc _, (hfr2.trans (Fr.setCell _ _ _ _ (by simp))).trans (Fr.alloc _ _)⟩
        have d6s : (wc.setCell ⟨r, 12, none⟩ (.bool true)).cell? ⟨m, 6, none⟩ = some cv := by
          rw [((Only.refl r wc).setCell 12 (.bool true)).cell m 6 (Row.ne HX.out.2.2.2.1 HX.out.2.2.1 (by decide))]
          exact d6'
        go_wp2_with (at_builtin; refine wpList_append_own_at _ rfl _ _ 30 rfl n₀ 23 i0 _ 1 8 Ybad.underlying30 hi0 hz0 hz1 hz2 rfl (by decide) _ cs.length cs rfl HC.out.1 ⟨wc.heap.size, 0, none⟩ 1 1 [ptr r] rfl rfl HC.out.2.1 (by simp [Value.oneCell']) (by unfold maxLen; omega) (by omega) HC.out.2.2.1 ?_; intro v' w1 hown' hgrow hnil hlies; obtain ⟨g', cap', rfl⟩ := ownsRow_succ hown'; have hmw := (Fr.grown (bs := []) hgrow hlies).row HC.out.2.2.2.2.2.2.1 (by simp) (own_ne HC.out.1 HC.out.2.2.2.2.2.2.1 (by decide)); have d61 := (hmw.cell 6).trans m6; have g61 := hmw.frozen 6; have HW : Hid _ := And.intro hown' (And.intro hgrow (And.intro hmw hlies)); clear hown' hgrow hmw hnil hlies)
        go_ret
        have hown' := HW.out.1
        have hgrow : W2.grownBy w1 cv.ownBlock := HW.out.2.1
        have hmw := HW.out.2.2.1
        have hlies : (Value.slice (some ⟨g', 0, none⟩) (cs.length + 1) cap').ownBlock = cv.ownBlock ∨ (Value.slice (some ⟨g', 0, none⟩) (cs.length + 1) cap').ownBlock = some W2.heap.size := HW.out.2.2.2
        obtain ⟨hownW, _, hszW, hMW, hFW, hrW, hmW, hfrW⟩ := HC.out
        have hfr1 : Fr [] cv _ W2 w1 := Fr.grown hgrow hlies
        have hfr1' : Fr [r, bM, bF, m] cv _ W2 w1 := Fr.grown hgrow hlies
        have hM1 := hfr1.row hMW (by simp) (own_ne hownW hMW (by decide))
        have hF1 := hfr1.row hFW (by simp) (own_ne hownW hFW (by decide))
        have hr1 := hfr1.row hrW (by simp) (own_ne hownW hrW (by decide))
        have ho := (Only.refl m w1).setCell 6 (.slice (some ⟨g', 0, none⟩) (cs.length + 1) cap')
        have e1 : mi ||| x = mi ||| y := by rw [← hyd, or_andn x mi hx hm1]
        refine ⟨rfl, .slice (some ⟨g', 0, none⟩) (cs.length + 1) cap', ?_, hfrW.trans (hfr1'.trans (Fr.only ho (by simp)))⟩
        rw [hyd, e1]
        simp only [ne_eq, hz, not_false_eq_true, decide_true, Bool.or_true, Bool.not_false, Bool.and_true, more]
        refine ⟨⟨rc.set 12 (.bool true), hr1.only ho (Row.ne hr1 hmw (by decide)), by simp [hrl], by simp [h4], by simp [h5], by simp [h8], by simp [h9], by simp [hrl]⟩, hM1.only ho (Row.ne hM1 hmw (by decide)), hF1.only ho (Row.ne hF1 hmw (by decide)),
          ⟨mc.set 6 _, hmw.set 6 _, by simp [hml], by simp [hml], by simp [m17]⟩, ?_, by simp [nM], by simp [nF], ok_set HO.out.1 (ne_or hm0) (or_lt hm1 hy), ok_set HO.out.2 (ne_or hf0) (or_lt hf1 hy), by rw [ho.size]; exact Nat.le_trans hszW hgrow.size⟩
        rw [show (cs ++ [ptr r]).length = cs.length + 1 by simp]
        exact own_only hown' ho hmw (by decide)
end Follow
end Go.Proofs.YbulkcrmgDoor
