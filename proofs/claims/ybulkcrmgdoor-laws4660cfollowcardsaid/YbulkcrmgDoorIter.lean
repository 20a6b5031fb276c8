/-
  (*set).all: the iterator's contract; (*Members).add, addBoth.
-/
import Derived.Test.YbulkcrmgDoorWord
import Derived.RangeFuncNested
import Derived.RangeFuncBound
import Derived.RangeFuncCalls
import Derived.RangeFuncLeaves
import Derived.Shelf.Abstract
import Derived.Shelf.RegionOpen
import Derived.WalkKit
import Derived.OwnWalkIn
import Derived.TacticsInMore
import Derived.LoopNIn
import Derived.LoopIn
import Derived.Laws.IdiomRangeMap
import Derived.Deep.RegionHeld3
namespace Go.Proofs.YbulkcrmgDoor
open Go.RowKit Go.Shelf
namespace Follow
open Kit
attribute [local go_sem] Oper.semAt_some

theorem cell_al {W : World} {a : Addr} {v : Value} (o : Obj) (h : W.cell? a = some v) : (W.alloc o).cell? a = some v := cell_kept h (World.grownBy_alloc W o none) (fun r e => by cases e)

/-- An index and a word. -/
abbrev Iw (n : Nat) := { p : Nat × Nat // p.1 < n ∧ p.2 < 18446744073709551616 }
/-- The words of f 0, .., f (k - 1) that are not zero, with their indexes. -/
def nz (f : Nat → Nat) (k : Nat) : List (Nat × Nat) := ((List.range k).filter (fun j => f j != 0)).map (fun j => (j, f j))
theorem nz_succ (f : Nat → Nat) (k : Nat) : nz f (k + 1) = if f k = 0 then nz f k else nz f k ++ [(k, f k)] := by
  unfold nz
  rw [List.range_succ, List.filter_append, List.map_append]
  by_cases h : f k = 0 <;> simp [h]
theorem nz_length (f : Nat → Nat) (k : Nat) : (nz f k).length ≤ k := by
  unfold nz
  rw [List.length_map]
  have := List.length_filter_le (fun j => f j != 0) (List.range k)
  simpa using this

/-- The blocks ks, where they are cells, lie as they lay. -/
def Kp (ks : List Nat) (W W' : World) : Prop := ∀ k ∈ ks, ∀ o : Obj, W.heap[k]? = some o → o.isCells = true → W'.heap[k]? = some o
theorem Kp.refl (ks : List Nat) (W : World) : Kp ks W W := fun _ _ _ h _ => h
theorem Kp.t {ks : List Nat} {A B C : World} (h : Kp ks A B) (k : Kp ks B C) : Kp ks A C := fun i hi o ho hc => k i hi o (h i hi o ho hc) hc
theorem Kp.b {ks : List Nat} {w : World} (W : World) (l : Nat) (o o' : Obj) (_ : w.heap.size ≤ l) (h : W.heap[l]? = some o) (hc : o.isCells = false) (_ : o.isWalk = false) : Kp ks W (W.putObj l o') := fun k _ o2 ho2 hc2 => by
  by_cases e : k = l
  · subst e; rw [h] at ho2; cases ho2; rw [hc] at hc2; cases hc2
  · exact (World.putObj_heap_other e).trans ho2
theorem Kp.row {ks : List Nat} {W W' : World} (h : Kp ks W W') {g : Nat} {t : TypeId} {cs : List Value} (hr : Row W g t cs) (hg : g ∈ ks) : Row W' g t cs := h g hg _ hr rfl

set_option maxRecDepth 100000 in
set_option maxHeartbeats 2000000 in
/-- (*set).all$1 -/
theorem all1_in (F : Fence) (n : Nat) (h23 : F.fn 23) (hro : F.round = none) (hn : 1 ≤ n) (l Bs fb N : Nat) (a : Option Addr) (len cap : Nat) (f : Nat → Nat) (ks : List Nat) (hlen : len ≤ 1024) (hlN : len ≤ N) (hf : ∀ i, f i < 18446744073709551616)
    (J Jx : List (Iw N) → World → Prop)
    (hY : ∀ pre x W, J pre W → pre.length < len → YieldAt F (n - 1) Ybad.prog l #[.int .i64 (x.1.1 : Int), .int .u64 (x.1.2 : Int)] W fun e W' =>
      (e = .returned (.bool true) ∧ J (pre ++ [x]) W' ∧ Kp ks W W') ∨ (e = .returned (.bool false) ∧ Jx (pre ++ [x]) W'))
    (W : World) (hBs : W.cell? ⟨Bs, 0, none⟩ = some (ptr fb)) (h0 : W.cell? ⟨fb, 0, none⟩ = some (.map none)) (h1 : W.cell? ⟨fb, 1, none⟩ = some (.slice a len cap)) (hJ0 : J [] W) (hJa : AbidesFrom W.heap.size J) (hrd : Reads W.heap.size W a len f) (hks : ∀ b off, a = some ⟨b, off, none⟩ → b ∈ ks ∧ ∃ c t, W.heap[b]? = some (.cells c t (0, 0))) :
    CallsIn F n Ybad.prog 23 #[.func (.yield l) #[] #[], .pointer (some ⟨Bs, 0, none⟩)] W fun e W' => (∃ v, e = .returned v) ∧
      ((∃ ys, (ys.map (·.1) = nz f len) ∧ J ys W') ∨ (∃ pre, True ∧ Jx pre W')) := by
  refine callsIn_of_wp Ybad.func23 rfl h23 ?_ hro
  simp only [Ybad.ntmps23, List.size_toArray, List.length_cons, List.length_nil, Nat.reduceAdd, Nat.reduceSub, Array.replicate_succ, Array.replicate_zero, List.push_toArray, List.append_toArray, List.nil_append, List.cons_append]
  have hrg := run_range_nilMap (P := Ybad.prog) W 27 3 36 Ybad.underlying27
  have hnx : ∀ ty, (Instr.next (.pointer (some ⟨W.heap.size, 0, none⟩)) false ty).run Ybad.prog (W.alloc (.mapIter none 0 #[] 0)) = .ok (.tuple #[.bool false]) (W.alloc (.mapIter none 0 #[] 0)) := fun ty => run_next_nilMap W ty 0 0 #[]
  have hBs' : (W.alloc (.mapIter none 0 #[] 0)).cell? ⟨Bs, 0, none⟩ = some (ptr fb) := cell_al _ hBs
  have h0' : (W.alloc (.mapIter none 0 #[] 0)).cell? ⟨fb, 0, none⟩ = some (.map none) := cell_al _ h0
  have h1' : (W.alloc (.mapIter none 0 #[] 0)).cell? ⟨fb, 1, none⟩ = some (.slice a len cap) := cell_al _ h1
  have hJ1 : J [] (W.alloc (.mapIter none 0 #[] 0)) := hJa _ _ _ none hJ0 (World.grownBy_alloc W _ none) (fun r e => by cases e)
  have HK : Hid (∀ b off, a = some ⟨b, off, none⟩ → b ∈ ks ∧ ∃ c t, (W.alloc (.mapIter none 0 #[] 0)).heap[b]? = some (.cells c t (0, 0))) := fun b off e => by
    obtain ⟨h, c, t, hc⟩ := hks b off e
    exact ⟨h, c, t, (Below.heap_alloc W _ b (Array.getElem?_eq_some_iff.1 hc).1).trans hc⟩
  have HR : Hid _ := hrd.below ((Below.refl W.heap.size W).alloc (Nat.le_refl _) (.mapIter none 0 #[] 0))
  have HF : Hid _ := hf
  clear hks hrd hf
  gi_wp2
  refine wpIn_loop_rounds 1 ?_
  rw [roundsIn_succ]
  generalize W.alloc (.mapIter none 0 #[] 0) = W1 at *
  gi_wp2
  gi_loopw [27] (fun i wr => ∃ (k : Nat) (pre : List (Iw N)), k ≤ len ∧ i = .int .i64 k ∧ pre.map (·.1) = nz f k ∧ J pre wr ∧ Kp ks W1 wr)
    (fun i _ => len - (intOf i).toNat)
  case atStart => exact ⟨0, [], Nat.zero_le _, rfl, rfl, hJ1, Kp.refl _ _⟩
  case round =>
    obtain ⟨k, pre, hk, rfl, hpre, hJs, hkp⟩ := hrel
    by_cases hlt : k < len
    · obtain ⟨b, off, rfl, hb, hc⟩ := HR.out (by omega)
      obtain ⟨hbk, c0, t0, hcell⟩ := HK.out b off rfl
      have hcx : wr.cell? ⟨b, off + k, none⟩ = some (.int .u64 (f k : Int)) := by
        refine (World.cell?_of_block (w := W1) ?_).trans (hc k hlt)
        rw [hcell]
        exact hkp b hbk _ hcell rfl
      have hltI : (k : Int) < (len : Int) := by omega
      by_cases hz : f k = 0
      · rw [hz] at hcx
        gi_wp2
        refine ⟨fun _ h => (by cases h), ?_⟩
        gi_wp2
        go_roundw
        case rel => exact ⟨k + 1, pre, by omega, by simp, by rw [nz_succ, if_pos hz]; exact hpre, hJs, hkp⟩
        case measure => simp [intOf]; omega
      · have hz' : (((f k : Nat) : Int) == 0) = false := by simp; omega
        obtain ⟨fn, tmps, assign, body, hy, hR⟩ := hY pre ⟨(k, f k), by omega, HF.out k⟩ wr hJs (by have := congrArg List.length hpre; rw [List.length_map] at this; have h2 := nz_length f k; omega)
        dsimp only at hy
        gi_wp2
        refine hR.mono ?_
        rintro e W3 (⟨rfl, hJ3, hk3⟩ | ⟨rfl, hJx3⟩)
        · gi_wp2
          go_roundw
          case rel => exact ⟨k + 1, pre ++ [⟨(k, f k), by omega, HF.out k⟩], by omega, by simp, by rw [nz_succ, if_neg hz, List.map_append, hpre]; rfl, hJ3, Kp.t hkp hk3⟩
          case measure => simp [intOf]; omega
        · gi_wp2
          refine bodyPost_ret (results_none rfl _ _ _) rfl ?_
          exact ⟨⟨_, rfl⟩, .inr ⟨_, trivial, hJx3⟩⟩
    · obtain rfl : k = len := by omega
      gi_wp2
      go_end0
      exact ⟨⟨_, rfl⟩, .inl ⟨pre, hpre, hJs⟩⟩

/-- (*set).all hands back a value that 'SeqStopsK': each word that is not zero, with its index, in order. -/
theorem all_stops (F : Fence) (n : Nat) (h23 : F.fn 23) (hro : F.round = none) (hn : 1 ≤ n) (Bs fb N : Nat) (a : Option Addr) (len cap : Nat) (f : Nat → Nat) (ks : List Nat) (hlen : len ≤ 1024) (hlN : len ≤ N) (hf : ∀ i, f i < 18446744073709551616) (w : World)
    (hBs : w.cell? ⟨Bs, 0, none⟩ = some (ptr fb)) (h0 : w.cell? ⟨fb, 0, none⟩ = some (.map none)) (h1 : w.cell? ⟨fb, 1, none⟩ = some (.slice a len cap)) (hrd : Reads w.heap.size w a len f) (hks : ∀ b off, a = some ⟨b, off, none⟩ → b ∈ ks ∧ ∃ c t, w.heap[b]? = some (.cells c t (0, 0))) :
    SeqStopsK F n Ybad.prog 23 #[.pointer (some ⟨Bs, 0, none⟩)] (fun x : Iw N => #[.int .i64 (x.1.1 : Int), .int .u64 (x.1.2 : Int)]) (Kp ks) (fun ys => ys.map (·.1) = nz f len) (fun _ => True) len w := fun l J Jx W hW hJ _ hY h00 =>
  all1_in F n h23 hro hn l Bs fb N a len cap f ks hlen hlN hf J Jx hY W ((hW.cell (p := ⟨Bs, 0, none⟩) (World.block_lt_of_cell? w _ hBs)).trans hBs) ((hW.cell (p := ⟨fb, 0, none⟩) (World.block_lt_of_cell? w _ h0)).trans h0)
    ((hW.cell (p := ⟨fb, 1, none⟩) (World.block_lt_of_cell? w _ h1)).trans h1) h00 hJ
    (fun hp => by
      obtain ⟨b, off, e, hb, hc⟩ := hrd hp
      exact ⟨b, off, e, Nat.lt_of_lt_of_le hb hW.size, fun i hi => (hW.cell (p := ⟨b, off + i, none⟩) hb).trans (hc i hi)⟩)
    (fun b off e => by
      obtain ⟨hb, c, t, hc⟩ := hks b off e
      exact ⟨hb, c, t, (hW.block b (Array.getElem?_eq_some_iff.1 hc).1).trans hc⟩)

set_option maxRecDepth 20000 in
/-- (*set).all -/
theorem all_ok (fb : Nat) (w : World) : Calls Ybad.prog 14 #[ptr fb] w fun e w' => e = .returned (.func (.func 23) #[] #[.pointer (some ⟨w.heap.size, 0, none⟩)]) ∧ w' = w.alloc (.cells #[ptr fb] 61) := by
  go_enter Ybad.func14, Ybad.ntmps14
  go_wp2
  go_ret
  exact ⟨rfl, rfl⟩

/-- What the word p.2 at index p.1 makes of a role's members, fresh members, mark. -/
def stepS (S : List Nat × List Nat × Bool) (p : Nat × Nat) : List Nat × List Nat × Bool :=
  (S.1.set p.1 (S.1[p.1]?.getD 0 ||| p.2), S.2.1.set p.1 (S.2.1[p.1]?.getD 0 ||| andn p.2 (S.1[p.1]?.getD 0)), S.2.2 || decide (andn p.2 (S.1[p.1]?.getD 0) ≠ 0))
def after (S : List Nat × List Nat × Bool) (ps : List (Nat × Nat)) : List Nat × List Nat × Bool := ps.foldl stepS S
theorem after_snoc (S : List Nat × List Nat × Bool) (ps : List (Nat × Nat)) (p : Nat × Nat) : after S (ps ++ [p]) = stepS (after S ps) p := by simp [after]
theorem after_mono (S : List Nat × List Nat × Bool) (ps : List (Nat × Nat)) (h : S.2.2 = true) : (after S ps).2.2 = true := by
  induction ps generalizing S with
  | nil => exact h
  | cons p ps ih => exact ih _ (by simp [stepS, h])
theorem more_step (q0 qk d : Bool) (cs : List Value) (v : Value) (h : q0 = true → qk = true) : more (!qk && d) (more (!q0 && qk) cs v) v = more (!q0 && (qk || d)) cs v := by
  cases q0 <;> cases qk <;> cases d <;> simp_all [more]

/-- The state of the role behind the words ps. -/
def StA (W : World) (n₀ m bud r bM bF n : Nat) (S : List Nat × List Nat × Bool) (cs : List Value) (ps : List (Nat × Nat)) (cv : Value) : Prop :=
  St W n₀ m bud r bM bF n (after S ps).1 (after S ps).2.1 (after S ps).2.2 cv (more (!S.2.2 && (after S ps).2.2) cs (ptr r))

theorem more_length (b : Bool) (cs : List Value) (v : Value) : (more b cs v).length ≤ cs.length + 1 := by cases b <;> simp [more]

/-- addWord, one word more. -/
theorem addWord_step (n₀ m bud r bM bF n : Nat) (S : List Nat × List Nat × Bool) (cs : List Value) (ps : List (Nat × Nat)) (cv : Value) (i x : Nat) (W : World) (hn : n ≤ 1024) (hi : i < n) (hx : x < 18446744073709551616) (hcs : cs.length ≤ 9)
    (hne : bM ≠ bF) (hS : StA W n₀ m bud r bM bF n S cs ps cv) :
    Calls Ybad.prog 15 #[ptr m, ptr r, .int .i64 i, u x] W fun e W' => e = .returned (.bool true) ∧ ∃ cv', StA W' n₀ m bud r bM bF n S cs (ps ++ [(i, x)]) cv' ∧ Fr [r, bM, bF, m] cv cv' W W' := by
  have h1 : (after S ps).1[i]? = some ((after S ps).1[i]?.getD 0) := by rw [List.getElem?_eq_getElem (by have := hS.nM; omega)]; rfl
  have h2 : (after S ps).2.1[i]? = some ((after S ps).2.1[i]?.getD 0) := by rw [List.getElem?_eq_getElem (by have := hS.nF; omega)]; rfl
  refine (addWord_ok n₀ m bud r bM bF n _ _ _ cv _ i x _ _ W hn hi hx (by have := more_length (!S.2.2 && (after S ps).2.2) cs (ptr r); omega) hne h1 h2 hS).mono ?_
  rintro e W' ⟨rfl, cv', hS', hfr⟩
  refine ⟨rfl, cv', ?_, hfr⟩
  unfold StA
  rw [after_snoc]
  rw [more_step _ _ _ _ _ (after_mono S ps)] at hS'
  exact hS'

/-- What is said of a role abides the turn of a block that is no cells. -/
theorem row_grown {W W' : World} {row : Option Nat} {g : Nat} {t : TypeId} {cs : List Value} (h : Row W g t cs) (hg : W.grownBy W' row) (hr : ∀ r, row = some r → ∃ o : Obj, W.heap[r]? = some o ∧ o.isCells = false) : Row W' g t cs :=
  (grownBy_keeps_cells hg hr h rfl).trans h
theorem St.grownBy {W W' : World} {row : Option Nat} {n₀ m bud r bM bF n : Nat} {M F : List Nat} {q : Bool} {cv : Value} {cs : List Value} (h : St W n₀ m bud r bM bF n M F q cv cs) (hg : W.grownBy W' row) (hr : ∀ r, row = some r → ∃ o : Obj, W.heap[r]? = some o ∧ o.isCells = false) :
    St W' n₀ m bud r bM bF n M F q cv cs := by
  obtain ⟨⟨rc, h1, h2⟩, hM, hF, ⟨mc, h3, h4⟩, hown, a1, a2, a3, a4, a5⟩ := h
  refine ⟨⟨rc, row_grown h1 hg hr, h2⟩, row_grown hM hg hr, row_grown hF hg hr, ⟨mc, row_grown h3 hg hr, h4⟩, hown.kept hg ?_, a1, a2, a3, a4, Nat.le_trans a5 hg.size⟩
  rcases hb : cv.ownBlock with _ | b
  · exact .inl rfl
  · refine .inr fun e => ?_
    obtain ⟨o, ho, hc⟩ := hr b e.symm
    obtain ⟨_, c, hcc⟩ := own_block hown hb
    rw [hcc] at ho; cases ho; cases hc
theorem Fr.grownBy {W V V' : World} {row : Option Nat} {bs : List Nat} {cv cv' : Value} (h : Fr bs cv cv' W V) (hg : V.grownBy V' row) (hr : ∀ r, row = some r → W.heap.size ≤ r) : Fr bs cv cv' W V' :=
  ⟨hg.os.trans h.os, hg.tape.trans h.tape, hg.output.trans h.output, Nat.le_trans h.size hg.size, fun k o hk hb ht => by
    have hk' := h.block k o hk hb ht
    refine (hg.block k (Array.getElem?_eq_some_iff.1 hk').1 (fun e => ?_)).trans hk'
    have := hr k e.symm
    have := (Array.getElem?_eq_some_iff.1 hk).1
    omega, h.own⟩

/-- What add's round needs of the world that the loop begins in. -/
theorem round_ends {n₀ m bud r bM bF n : Nat} {S : List Nat × List Nat × Bool} {cs : List Value} {ps : List (Nat × Nat)} {cv cvk cv' : Value} {W0 V V' : World} {ks : List Nat} {B : Nat}
    (hS : StA V n₀ m bud r bM bF n S cs ps cvk) (h0 : Fr [r, bM, bF, m] cv cvk W0 V) (hfr : Fr [r, bM, bF, m] cvk cv' V V')
    (hks : ∀ k ∈ ks, k ∉ [r, bM, bF, m] ∧ some k ≠ cv.ownBlock ∧ ∃ c t, W0.heap[k]? = some (.cells c t (0, 0)) ∧ t ≠ 23) : KeepsFrom B V V' ∧ Kp ks V V' := by
  obtain ⟨⟨rc, h1, h2⟩, hM, hF, ⟨mc, h3, h4⟩, hown, a1, a2, a3, a4, a5⟩ := hS
  refine ⟨⟨hfr.size, fun k o _ hk ho => hfr.block k o hk (fun hb => ?_) (fun e => ?_)⟩, fun k hk o ho hc => ?_⟩
  · simp only [List.mem_cons, List.not_mem_nil, or_false] at hb
    unfold Row at h1 hM hF h3
    rcases hb with rfl | rfl | rfl | rfl
    · rw [h1] at hk; cases hk; cases ho
    · rw [hM] at hk; cases hk; cases ho
    · rw [hF] at hk; cases hk; cases ho
    · rw [h3] at hk; cases hk; cases ho
  · obtain ⟨_, c, hc⟩ := own_block hown e.symm
    rw [hc] at hk; cases hk; cases ho
  · obtain ⟨hb, hcv, c, t, hc0, ht⟩ := hks k hk
    have hV := h0.block k _ hc0 hb hcv
    rw [hV] at ho
    cases ho
    refine hfr.block k _ hV hb (fun e => ?_)
    obtain ⟨_, c2, hc2⟩ := own_block hown e.symm
    rw [hV] at hc2
    cases hc2
    exact ht rfl

set_option maxRecDepth 100000 in
set_option maxHeartbeats 4000000 in
/-- (*Members).add -/
theorem add_ok (n₀ m bud r bM bF n : Nat) (S : List Nat × List Nat × Bool) (cs : List Value) (cv : Value) (fb : Nat) (a : Option Addr) (len cap : Nat) (f : Nat → Nat) (W : World) (hn : n ≤ 1024) (hlen : len ≤ n) (hf : ∀ i, f i < 18446744073709551616) (hcs : cs.length ≤ 9)
    (hne : bM ≠ bF) (hS : St W n₀ m bud r bM bF n S.1 S.2.1 S.2.2 cv cs) (h0 : W.cell? ⟨fb, 0, none⟩ = some (.map none)) (h1 : W.cell? ⟨fb, 1, none⟩ = some (.slice a len cap)) (hrd : Reads W.heap.size W a len f)
    (hks : ∀ x, a = some x → x.block ∉ [r, bM, bF, m] ∧ ∃ c t, W.heap[x.block]? = some (.cells c t (0, 0)) ∧ t ≠ 23) :
    Calls Ybad.prog 9 #[ptr m, ptr r, ptr fb] W fun e W' => (∃ v, e = .returned v) ∧ ∃ cv', StA W' n₀ m bud r bM bF n S cs (nz f len) cv' ∧ Fr [r, bM, bF, m] cv cv' W W' := by
  have hlt0 := World.block_lt_of_cell? W _ h0
  refine (callsIn_wide (n := 6)).1 ?_
  refine callsIn_of_wp_marks Ybad.func9 rfl trivial ?_ rfl
  simp only [Ybad.ntmps9, List.size_toArray, List.length_cons, List.length_nil, Nat.reduceAdd, Nat.reduceSub, Array.replicate_succ, Array.replicate_zero, List.push_toArray, List.append_toArray, List.nil_append, List.cons_append]
  gi_wp2_with (refine ⟨trivial, ?_⟩; gi_at_call 14; refine (callsIn_wide.2 (all_ok fb _)).mono ?_; rintro e w' ⟨rfl, rfl⟩)
  have bA := Boxed.new W 40 (ptr m)
  have bB := Boxed.new (W.alloc (.cells #[ptr m] 40)) 23 (ptr r)
  have bC := Boxed.new ((W.alloc (.cells #[ptr m] 40)).alloc (.cells #[ptr r] 23)) 61 (ptr fb)
  simp only [World.size_alloc] at bB bC
  replace bA := (bA.alloc (.cells #[ptr r] 23)).alloc (.cells #[ptr fb] 61)
  replace bB := bB.alloc (.cells #[ptr fb] 61)
  have hg0 : Fr [r, bM, bF, m] cv cv W (((W.alloc (.cells #[ptr m] 40)).alloc (.cells #[ptr r] 23)).alloc (.cells #[ptr fb] 61)) := ((Fr.alloc _ _).trans (Fr.alloc _ _)).trans (Fr.alloc _ _)
  have hS0 := ((hS.grownBy (World.grownBy_alloc W (.cells #[ptr m] 40) none) (fun r e => by cases e)).grownBy (World.grownBy_alloc _ (.cells #[ptr r] 23) none) (fun r e => by cases e)).grownBy (World.grownBy_alloc _ (.cells #[ptr fb] 61) none) (fun r e => by cases e)
  have hB0 : Below W.heap.size W (((W.alloc (.cells #[ptr m] 40)).alloc (.cells #[ptr r] 23)).alloc (.cells #[ptr fb] 61)) := (((Below.refl _ W).alloc (Nat.le_refl _) _).alloc (by simp) _).alloc (by simp; omega) _
  have hsz : (((W.alloc (.cells #[ptr m] 40)).alloc (.cells #[ptr r] 23)).alloc (.cells #[ptr fb] 61)).heap.size = W.heap.size + 3 := by simp
  obtain ⟨W0, hW0⟩ : ∃ W0, ((W.alloc (.cells #[ptr m] 40)).alloc (.cells #[ptr r] 23)).alloc (.cells #[ptr fb] 61) = W0 := ⟨_, rfl⟩
  rw [hW0] at bA bB bC hg0 hS0 hB0 hsz ⊢
  clear hW0
  have hown0 := hS0.own
  have hbn : ∀ k, W.heap.size ≤ k → some k ≠ cv.ownBlock := fun k hk e => by
    obtain ⟨_, c, hc⟩ := own_block hS.own e.symm
    have := (Array.getElem?_eq_some_iff.1 hc).1
    omega
  have hmem : ∀ k, W.heap.size ≤ k → k ∉ [r, bM, bF, m] := fun k hk hb => by
    obtain ⟨⟨rc, h1, h2⟩, hM, hF, ⟨mc, h3, h4⟩, _⟩ := hS
    have := h1.lt; have := Row.lt hM; have := Row.lt hF; have := Row.lt h3
    simp only [List.mem_cons, List.not_mem_nil, or_false] at hb
    omega
  refine wpIn_rangeFunc_ownG rfl (by omega) (gf := 23) (lb := #[.pointer (some ⟨W.heap.size + 1 + 1, 0, none⟩)]) rfl trivial (enters_of Ybad.func23 (by kernel_rfl) rfl)
    (all_stops Fence.wide 5 trivial rfl (by omega) (W.heap.size + 1 + 1) fb n a len cap f (a.toList.map Addr.block) (by omega) hlen hf W0 bC.cell ((hB0.cell (p := ⟨fb, 0, none⟩) hlt0).trans h0) ((hB0.cell (p := ⟨fb, 1, none⟩) hlt0).trans h1)
      (fun hp => by
        obtain ⟨b, off, e, hb, hc⟩ := hrd hp
        exact ⟨b, off, e, by omega, fun i hi => (hB0.cell (p := ⟨b, off + i, none⟩) hb).trans (hc i hi)⟩)
      (fun b off e => by
        obtain ⟨hb, c, t, hc, _⟩ := hks _ e
        exact ⟨by simp [e], c, t, (hB0.block b (Array.getElem?_eq_some_iff.1 hc).1).trans hc⟩))
    Kp.t Kp.b (Below.refl _ _) (fun _ => rfl)
    (fun pre V => ∃ cvk, StA V n₀ m bud r bM bF n S cs (pre.map (·.1)) cvk ∧ Fr [r, bM, bF, m] cv cvk W0 V)
    (fun _ _ _ => False)
    (by
      rintro s A B row ⟨cvk, hs, hfr⟩ hg hr
      exact ⟨cvk, St.grownBy hs hg (fun r e => (hr r e).2), hfr.grownBy hg (fun r e => (hr r e).1)⟩)
    (fun _ _ _ _ _ hs _ _ => hs)
    ⟨cv, by simpa [StA, after, more] using hS0, Fr.refl _ _ _⟩
    (fun x => { tmps := #[ptr m, ptr r, ptr fb, .pointer (some ⟨W.heap.size, 0, none⟩), .pointer (some ⟨W.heap.size + 1, 0, none⟩), undef, .int .i64 (x.1.1 : Int), .int .u64 (x.1.2 : Int), ptr fb, .func (.func 23) #[] #[.pointer (some ⟨W.heap.size + 1 + 1, 0, none⟩)], .int .i64 (x.1.1 : Int), .int .u64 (x.1.2 : Int), undef, undef, undef, undef, undef, undef], defers := [] }) ?assign ?body ?done ?stop
  case assign =>
    intro l x V K hK
    gi_wp2
    exact hK
  case body =>
    rintro l pre x V ⟨cvk, hs, hfr⟩ _
    have cA : V.cell? ⟨W.heap.size, 0, none⟩ = some (ptr m) := Boxed.cell (hfr.block _ _ bA (hmem _ (Nat.le_refl _)) (hbn _ (Nat.le_refl _)))
    have cB : V.cell? ⟨W.heap.size + 1, 0, none⟩ = some (ptr r) := Boxed.cell (hfr.block _ _ bB (hmem _ (by omega)) (hbn _ (by omega)))
    gi_wp2_with (refine ⟨trivial, ?_⟩; gi_at_call 15; refine (CallsIn.inRound l (callsIn_wide.2 (addWord_step n₀ m bud r bM bF n S cs (pre.map (·.1)) cvk x.1.1 x.1.2 V hn x.2.1 x.2.2 hcs hne hs))).mono ?_; rintro e V' ⟨rfl, cv', hs', hfr'⟩)
    obtain ⟨k1, k2⟩ := round_ends (ks := a.toList.map Addr.block) (B := W0.heap.size) hs hfr hfr' (fun k hk => by
      simp only [List.mem_map, Option.mem_toList] at hk
      obtain ⟨x, hx, rfl⟩ := hk
      obtain ⟨hb, c, t, hc, ht⟩ := hks x hx
      have hc0 := (hB0.block x.block (Array.getElem?_eq_some_iff.1 hc).1).trans hc
      refine ⟨hb, fun e => ?_, c, t, hc0, ht⟩
      obtain ⟨_, c2, hc2⟩ := own_block hown0 e.symm
      rw [hc0] at hc2; cases hc2; exact ht rfl)
    exact ⟨k1, k2, cv', by rw [List.map_append]; exact hs', hfr.trans hfr'⟩
  case done =>
    rintro D ys V hD hys ⟨cvk, hs, hfr⟩ hK
    gi_wp2
    refine ⟨by simp, .inl ⟨_, _, rfl, run_takeDeferred hK, ?_⟩⟩
    have hg := grownBy_putObj' V D (.deferred none)
    refine ⟨_, results_none rfl _ _ _, ⟨_, rfl⟩, cvk, ?_, hg0.trans (hfr.grownBy hg (fun r e => by cases e; exact hD))⟩
    rw [← hys]
    exact St.grownBy hs hg (fun r e => by cases e; exact ⟨_, hK, rfl⟩)
  case stop =>
    rintro D c pre V _ _ h _
    exact h.elim

theorem St.drew {W : World} {n₀ m bud r bM bF n : Nat} {M F : List Nat} {q : Bool} {cv : Value} {cs : List Value} (h : St W n₀ m bud r bM bF n M F q cv cs) : St W.drew n₀ m bud r bM bF n M F q cv cs :=
  ⟨h.role, h.mem, h.frs, h.mm, h.own, h.nM, h.nF, h.okM, h.okF, h.size⟩
theorem Fr.ofDrew {bs : List Nat} {cv cv' : Value} {W W' : World} (h : Fr bs cv cv' W.drew W') : Fr bs cv cv' W W' := ⟨h.os, h.tape, h.output, h.size, h.block, h.own⟩

/-- The word of index i of a row of len words. -/
def wd (len : Nat) (f : Nat → Nat) (i : Nat) : Nat := if i < len then f i else 0
theorem wd_lt (len : Nat) (f : Nat → Nat) (hf : ∀ i, f i < 18446744073709551616) (i : Nat) : wd len f i < 18446744073709551616 := by unfold wd; split; exact hf _; omega
theorem word_wd (r k : Nat) (a : Option Addr) (len cap : Nat) (f : Nat → Nat) (i : Nat) (w : World) (n₀ : Nat) (hlen : len ≤ 1024) (hi : i ≤ 1024)
    (h0 : w.cell? ⟨r, k, none⟩ = some (.map none)) (h1 : w.cell? ⟨r, k + 1, none⟩ = some (.slice a len cap)) (hr : Reads n₀ w a len f) :
    Calls Ybad.prog 20 #[.pointer (some ⟨r, k, none⟩), .int .i64 i] w fun e w' => e = .returned (.int .u64 (wd len f i : Int)) ∧ w' = w := word_ok r k a len cap f i w n₀ hlen hi h0 h1 hr

/-- A region's walk outside every fence serves in a round, too: no operation of it defers, no way out is 'outgrown'. -/
theorem anyIn_of_any {P : Program} {ops : Array Oper} {Q : Exit → Act → World → Prop} {md : Region.Mode} (l n : Nat) (hQ : ¬ LetsOut Q) (hd : ∀ (i : Nat) (o : Oper), ops[i]? = some o → ∀ c, o.op ≠ .defer c) :
    ∀ (fuel : Nat) (listed : Array Bool) (a : Act) (w : World), wpAny P md ops Q fuel listed a w → wpAnyIn (Fence.wide.inRound l) n P md ops Q fuel listed a w
  | 0, _, _, _, h => h
  | fuel + 1, listed, a, w, h => ⟨h.1, fun i hi => by
    have h2 := wpOp_mono (fun a' w' h' => anyIn_of_any l n hQ hd fuel (listed.setIfInBounds i true) a' w' h') (h.2 i hi)
    unfold wpOp at h2
    unfold wpOpIn
    cases ho : ops[i]? with
    | none => rw [ho] at h2; exact h2
    | some o =>
      rw [ho] at h2
      dsimp only at h2 ⊢
      split
      · rename_i hw
        rw [if_pos hw] at h2
        rcases h2 with h2 | ⟨_, h2⟩
        · refine ⟨fun f _ => trivial, ?_⟩
          rw [Oper.semAt_plain (Fence.wide.inRound l) _ _ (hd i o ho)]
          unfold Oper.wp at h2
          generalize (execOp a.eval o).run P w = res at h2 ⊢
          cases res with
          | ok x w' =>
            cases x with
            | value v => exact h2
            | skip => exact h2
            | defer d => exact h2
            | enter f args => exact ⟨fun hd => (by cases hd), CallsIn.inRound l (callsIn_wide.2 h2)⟩
            | row rw0 as0 => exact ⟨fun hd => (by cases hd), fun c cs _ => let ⟨v, w'', r, st⟩ := h2 c cs; ⟨v, w'', r, stepsIn_wide.2 st⟩⟩
            | _ => exact h2.elim
          | halt x w' => cases x <;> first | exact h2 | exact h2.elim
        · exact absurd h2 hQ
      · rename_i hw
        rw [if_neg hw] at h2
        exact ⟨fun f _ => trivial, h2⟩⟩

def noDefer (o : Oper) : Bool := match o.op with | .defer _ => false | _ => true
theorem noDefer_spec {ops : Array Oper} (h : ops.all noDefer = true) (i : Nat) (o : Oper) (ho : ops[i]? = some o) (c : Call) : o.op ≠ .defer c := fun e => by
  obtain ⟨hlt, rfl⟩ := Array.getElem?_eq_some_iff.1 ho
  have := Array.all_eq_true.1 h i hlt
  simp [noDefer, e] at this

/-- Behind the region of addBoth's round. -/
def RQ (V : World) (n₀ m bud r bM bF n : Nat) (S : List Nat × List Nat × Bool) (cs : List Value) (ps : List (Nat × Nat)) (cvk : Value) (e : Exit) (a' : Act) (V' : World) : Prop :=
  e = .normal ∧ a'.eval (.tmp 23) = .bool false ∧ ∃ cv', StA V' n₀ m bud r bM bF n S cs ps cv' ∧ Fr [r, bM, bF, m] cvk cv' V V'

/-- The word p.2, less what the other set does not hold. -/
def both (lenC : Nat) (fC : Nat → Nat) (p : Nat × Nat) : Nat × Nat := (p.1, p.2 &&& wd lenC fC p.1)

set_option linter.unusedSimpArgs false in
set_option maxRecDepth 100000 in
set_option maxHeartbeats 4000000 in
/-- (*Members).addBoth -/
theorem addBoth_ok (n₀ m bud r bM bF n : Nat) (S : List Nat × List Nat × Bool) (cs : List Value) (cv : Value) (fb : Nat) (a : Option Addr) (len cap : Nat) (f : Nat → Nat) (ob : Nat) (oc : List Value) (aC : Option Addr) (lenC capC : Nat) (fC : Nat → Nat) (W : World) (hn : n ≤ 1024) (hlen : len ≤ n) (hf : ∀ i, f i < 18446744073709551616) (hcs : cs.length ≤ 9)
    (hne : bM ≠ bF) (hS : St W n₀ m bud r bM bF n S.1 S.2.1 S.2.2 cv cs) (h0 : W.cell? ⟨fb, 0, none⟩ = some (.map none)) (h1 : W.cell? ⟨fb, 1, none⟩ = some (.slice a len cap)) (hrd : Reads W.heap.size W a len f)
    (hks : ∀ x, a = some x → x.block ∉ [r, bM, bF, m] ∧ ∃ c t, W.heap[x.block]? = some (.cells c t (0, 0)) ∧ t ≠ 23)
    (hlenC : lenC ≤ 1024) (hfC : ∀ i, fC i < 18446744073709551616) (ho : Row W ob 34 oc) (hob : ob ∉ [r, bM, bF, m]) (o4 : oc[4]? = some (.map none)) (o5 : oc[5]? = some (.slice aC lenC capC)) (hrdC : Reads W.heap.size W aC lenC fC)
    (hksC : ∀ x, aC = some x → x.block ∉ [r, bM, bF, m] ∧ ∃ c t, W.heap[x.block]? = some (.cells c t (0, 0)) ∧ t ≠ 23) :
    Calls Ybad.prog 11 #[ptr m, ptr r, ptr fb, .pointer (some ⟨ob, 4, none⟩)] W fun e W' => (∃ v, e = .returned v) ∧ ∃ cv', StA W' n₀ m bud r bM bF n S cs ((nz f len).map (both lenC fC)) cv' ∧ Fr [r, bM, bF, m] cv cv' W W' := by
  have hlt0 := World.block_lt_of_cell? W _ h0
  refine (callsIn_wide (n := 6)).1 ?_
  refine callsIn_of_wp_marks Ybad.func11 rfl trivial ?_ rfl
  simp only [Ybad.ntmps11, List.size_toArray, List.length_cons, List.length_nil, Nat.reduceAdd, Nat.reduceSub, Array.replicate_succ, Array.replicate_zero, List.push_toArray, List.append_toArray, List.nil_append, List.cons_append]
  gi_wp2_with (refine ⟨trivial, ?_⟩; gi_at_call 14; refine (callsIn_wide.2 (all_ok fb _)).mono ?_; rintro e w' ⟨rfl, rfl⟩)
  have bA := Boxed.new W 40 (ptr m)
  have bB := Boxed.new (W.alloc (.cells #[ptr m] 40)) 23 (ptr r)
  have bT := Boxed.new ((W.alloc (.cells #[ptr m] 40)).alloc (.cells #[ptr r] 23)) 61 (.pointer (some ⟨ob, 4, none⟩))
  have bC := Boxed.new (((W.alloc (.cells #[ptr m] 40)).alloc (.cells #[ptr r] 23)).alloc (.cells #[.pointer (some ⟨ob, 4, none⟩)] 61)) 61 (ptr fb)
  simp only [World.size_alloc] at bB bT bC
  replace bA := ((bA.alloc (.cells #[ptr r] 23)).alloc (.cells #[.pointer (some ⟨ob, 4, none⟩)] 61)).alloc (.cells #[ptr fb] 61)
  replace bB := (bB.alloc (.cells #[.pointer (some ⟨ob, 4, none⟩)] 61)).alloc (.cells #[ptr fb] 61)
  replace bT := bT.alloc (.cells #[ptr fb] 61)
  have hg0 : Fr [r, bM, bF, m] cv cv W ((((W.alloc (.cells #[ptr m] 40)).alloc (.cells #[ptr r] 23)).alloc (.cells #[.pointer (some ⟨ob, 4, none⟩)] 61)).alloc (.cells #[ptr fb] 61)) := (((Fr.alloc _ _).trans (Fr.alloc _ _)).trans (Fr.alloc _ _)).trans (Fr.alloc _ _)
  have hS0 := (((hS.grownBy (World.grownBy_alloc W (.cells #[ptr m] 40) none) (fun r e => by cases e)).grownBy (World.grownBy_alloc _ (.cells #[ptr r] 23) none) (fun r e => by cases e)).grownBy (World.grownBy_alloc _ (.cells #[.pointer (some ⟨ob, 4, none⟩)] 61) none) (fun r e => by cases e)).grownBy (World.grownBy_alloc _ (.cells #[ptr fb] 61) none) (fun r e => by cases e)
  have hB0 : Below W.heap.size W ((((W.alloc (.cells #[ptr m] 40)).alloc (.cells #[ptr r] 23)).alloc (.cells #[.pointer (some ⟨ob, 4, none⟩)] 61)).alloc (.cells #[ptr fb] 61)) := ((((Below.refl _ W).alloc (Nat.le_refl _) _).alloc (by simp) _).alloc (by simp; omega) _).alloc (by simp; omega) _
  have hsz : ((((W.alloc (.cells #[ptr m] 40)).alloc (.cells #[ptr r] 23)).alloc (.cells #[.pointer (some ⟨ob, 4, none⟩)] 61)).alloc (.cells #[ptr fb] 61)).heap.size = W.heap.size + 4 := by simp
  obtain ⟨W0, hW0⟩ : ∃ W0, (((W.alloc (.cells #[ptr m] 40)).alloc (.cells #[ptr r] 23)).alloc (.cells #[.pointer (some ⟨ob, 4, none⟩)] 61)).alloc (.cells #[ptr fb] 61) = W0 := ⟨_, rfl⟩
  rw [hW0] at bA bB bT bC hg0 hS0 hB0 hsz ⊢
  clear hW0
  have hown0 := hS0.own
  have hbn : ∀ k, W.heap.size ≤ k → some k ≠ cv.ownBlock := fun k hk e => by
    obtain ⟨_, c, hc⟩ := own_block hS.own e.symm
    have := (Array.getElem?_eq_some_iff.1 hc).1
    omega
  have hmem : ∀ k, W.heap.size ≤ k → k ∉ [r, bM, bF, m] := fun k hk hb => by
    obtain ⟨⟨rc, h1, h2⟩, hM, hF, ⟨mc, h3, h4⟩, _⟩ := hS
    have := h1.lt; have := Row.lt hM; have := Row.lt hF; have := Row.lt h3
    simp only [List.mem_cons, List.not_mem_nil, or_false] at hb
    omega
  refine wpIn_rangeFunc_ownG rfl (by omega) (gf := 23) (lb := #[.pointer (some ⟨W.heap.size + 1 + 1 + 1, 0, none⟩)]) rfl trivial (enters_of Ybad.func23 (by kernel_rfl) rfl)
    (all_stops Fence.wide 5 trivial rfl (by omega) (W.heap.size + 1 + 1 + 1) fb n a len cap f (a.toList.map Addr.block) (by omega) hlen hf W0 bC.cell ((hB0.cell (p := ⟨fb, 0, none⟩) hlt0).trans h0) ((hB0.cell (p := ⟨fb, 1, none⟩) hlt0).trans h1)
      (fun hp => by
        obtain ⟨b, off, e, hb, hc⟩ := hrd hp
        exact ⟨b, off, e, by omega, fun i hi => (hB0.cell (p := ⟨b, off + i, none⟩) hb).trans (hc i hi)⟩)
      (fun b off e => by
        obtain ⟨hb, c, t, hc, _⟩ := hks _ e
        exact ⟨by simp [e], c, t, (hB0.block b (Array.getElem?_eq_some_iff.1 hc).1).trans hc⟩))
    Kp.t Kp.b (Below.refl _ _) (fun _ => rfl)
    (fun pre V => ∃ cvk, StA V n₀ m bud r bM bF n S cs (pre.map (fun x => both lenC fC x.1)) cvk ∧ Fr [r, bM, bF, m] cv cvk W0 V)
    (fun _ _ _ => False)
    (by
      rintro s A B row ⟨cvk, hs, hfr⟩ hg hr
      exact ⟨cvk, St.grownBy hs hg (fun r e => (hr r e).2), hfr.grownBy hg (fun r e => (hr r e).1)⟩)
    (fun _ _ _ _ _ hs _ _ => hs)
    ⟨cv, by simpa [StA, after, more] using hS0, Fr.refl _ _ _⟩
    (fun x => { tmps := #[ptr m, ptr r, ptr fb, .pointer (some ⟨ob, 4, none⟩), .pointer (some ⟨W.heap.size, 0, none⟩), .pointer (some ⟨W.heap.size + 1, 0, none⟩), undef, .pointer (some ⟨W.heap.size + 1 + 1, 0, none⟩), .int .i64 (x.1.1 : Int), .int .u64 (x.1.2 : Int), ptr fb, .func (.func 23) #[] #[.pointer (some ⟨W.heap.size + 1 + 1 + 1, 0, none⟩)], .int .i64 (x.1.1 : Int), .int .u64 (x.1.2 : Int), undef, undef, undef, undef, undef, undef, undef, undef, undef, undef], defers := [] }) ?assign ?body ?done ?stop
  case assign =>
    intro l x V K hK
    gi_wp2
    exact hK
  case body =>
    rintro l pre x V ⟨cvk, hs, hfr⟩ _
    have cA : V.cell? ⟨W.heap.size, 0, none⟩ = some (ptr m) := Boxed.cell (hfr.block _ _ bA (hmem _ (Nat.le_refl _)) (hbn _ (Nat.le_refl _)))
    have cB : V.cell? ⟨W.heap.size + 1, 0, none⟩ = some (ptr r) := Boxed.cell (hfr.block _ _ bB (hmem _ (by omega)) (hbn _ (by omega)))
    have cT : V.cell? ⟨W.heap.size + 1 + 1, 0, none⟩ = some (.pointer (some ⟨ob, 4, none⟩)) := Boxed.cell (hfr.block _ _ bT (hmem _ (by omega)) (hbn _ (by omega)))
    have hoV : Row V ob 34 oc := hfr.row (ho.below hB0 ho.lt) hob (own_ne hown0 (ho.below hB0 ho.lt) (by decide))
    have e4 := (hoV.cell 4).trans o4
    have e5 := (hoV.cell 5).trans o5
    have hrV : Reads W.heap.size V aC lenC fC := fun hp => by
      obtain ⟨b, off, e, hb, hc⟩ := hrdC hp
      obtain ⟨hbm, c, t, hcc, ht⟩ := hksC _ e
      have hc0 := (hB0.block b hb).trans hcc
      have hV := hfr.block b _ hc0 hbm (fun e2 => by
        obtain ⟨_, c2, hc2⟩ := own_block hown0 e2.symm
        rw [hc0] at hc2; cases hc2; exact ht rfl)
      exact ⟨b, off, e, hb, fun i hi => (World.cell?_of_block (w := W) (hV.trans hcc.symm)).trans (hc i hi)⟩
    have hbits : bits .and .u64 (x.1.2 : Int) (wd lenC fC x.1.1 : Int) = ((x.1.2 &&& wd lenC fC x.1.1 : Nat) : Int) := u64_and_nat _ _ x.2.2 (wd_lt lenC fC hfC _)
    have hmix : Ybad.prog.follows .mixedOrders = true := by kernel_rfl
    have HK : Hid (KeepsFrom W0.heap.size V V ∧ ∀ cv' V', Fr [r, bM, bF, m] cvk cv' V V' → KeepsFrom W0.heap.size V V' ∧ Kp (a.toList.map Addr.block) V V') := ⟨KeepsFrom.refl _ _, fun cv' V' hfr' => round_ends (ks := a.toList.map Addr.block) (B := W0.heap.size) hs hfr hfr' (fun k hk => by
      simp only [List.mem_map, Option.mem_toList] at hk
      obtain ⟨x, hx, rfl⟩ := hk
      obtain ⟨hb, c, t, hc, ht⟩ := hks x hx
      have hc0 := (hB0.block x.block (Array.getElem?_eq_some_iff.1 hc).1).trans hc
      refine ⟨hb, fun e => ?_, c, t, hc0, ht⟩
      obtain ⟨_, c2, hc2⟩ := own_block hown0 e.symm
      rw [hc0] at hc2; cases hc2; exact ht rfl)⟩
    have HBX : Hid (∀ cv' V', Fr [r, bM, bF, m] cvk cv' V V' → V'.cell? ⟨W.heap.size, 0, none⟩ = some (ptr m) ∧ V'.cell? ⟨W.heap.size + 1, 0, none⟩ = some (ptr r) ∧ V'.cell? ⟨W.heap.size + 1 + 1, 0, none⟩ = some (.pointer (some ⟨ob, 4, none⟩))) := fun cv' V' hfr' =>
      ⟨Boxed.cell ((hfr.trans hfr').block _ _ bA (hmem _ (Nat.le_refl _)) (hbn _ (Nat.le_refl _))), Boxed.cell ((hfr.trans hfr').block _ _ bB (hmem _ (by omega)) (hbn _ (by omega))), Boxed.cell ((hfr.trans hfr').block _ _ bT (hmem _ (by omega)) (hbn _ (by omega)))⟩
    have HS : Hid _ := hs
    have HFr : Hid _ := hfr
    have HRv : Hid _ := hrV
    have hxi : x.1.1 ≤ 1024 := by have := x.2.1; omega
    have hxn : x.1.1 < n := x.2.1
    have hx2 : x.1.2 < 18446744073709551616 := x.2.2
    obtain ⟨⟨xi, xw⟩, hxx⟩ := x
    dsimp only at hbits hxi hxn hx2 ⊢
    clear hs hfr hrV hks hksC hrd hrdC hf hfC hmem hbn hown0 hS0 hB0 hg0 hS bA bB bT bC h0 h1 hoV ho hob o4 o5 hsz
    gi_wp2
    refine wpIn_mono (Q := RQ V n₀ m bud r bM bF n S cs (pre.map (fun x => both lenC fC x.1) ++ [both lenC fC (xi, xw)]) cvk) ?_ ?_
    · rename_i QA hpre QB K hK
      clear hK K QB hpre QA HK HFr
      refine wpIn_region_any hmix (anyIn_of_any l _ (fun ⟨_, _, h⟩ => by cases h.1) (noDefer_spec (by kernel_rfl)) _ _ _ _ (wpAny_of_held (S := fun X => X.cell? ⟨W.heap.size, 0, none⟩ = some (ptr m) ∧ X.cell? ⟨W.heap.size + 1, 0, none⟩ = some (ptr r) ∧ X.cell? ⟨W.heap.size + 1 + 1, 0, none⟩ = some (.pointer (some ⟨ob, 4, none⟩))) _ _ _ _ ?_))
      have hS0 : V.drew.cell? ⟨W.heap.size, 0, none⟩ = some (ptr m) ∧ V.drew.cell? ⟨W.heap.size + 1, 0, none⟩ = some (ptr r) ∧ V.drew.cell? ⟨W.heap.size + 1 + 1, 0, none⟩ = some (.pointer (some ⟨ob, 4, none⟩)) := ⟨cA, cB, cT⟩
      refine wpAnyH_take (i := 0) (v := ptr m) rfl (by kernel_rfl) (by kernel_rfl) (by kernel_rfl) (fun _ _ _ h => by cases h.1) (Or.inl ⟨by rfl, fun w hSw => ?_⟩) hS0 ?_
      · obtain ⟨s1, s2, s3⟩ := hSw
        go_simp
      try simp only [Act.put, List.setIfInBounds_toArray, List.set_cons_zero, List.set_cons_succ]
      refine wpAnyH_take (i := 1) (v := ptr r) rfl (by kernel_rfl) (by kernel_rfl) (by kernel_rfl) (fun _ _ _ h => by cases h.1) (Or.inl ⟨by rfl, fun w hSw => ?_⟩) hS0 ?_
      · obtain ⟨s1, s2, s3⟩ := hSw
        go_simp
      try simp only [Act.put, List.setIfInBounds_toArray, List.set_cons_zero, List.set_cons_succ]
      refine wpAnyH_take (i := 2) (v := .int .i64 (xi : Int)) rfl (by kernel_rfl) (by kernel_rfl) (by kernel_rfl) (fun _ _ _ h => by cases h.1) (Or.inl ⟨by rfl, fun w hSw => ?_⟩) hS0 ?_
      · obtain ⟨s1, s2, s3⟩ := hSw
        go_simp
      try simp only [Act.put, List.setIfInBounds_toArray, List.set_cons_zero, List.set_cons_succ]
      refine wpAnyH_take (i := 3) (v := .int .u64 (xw : Int)) rfl (by kernel_rfl) (by kernel_rfl) (by kernel_rfl) (fun _ _ _ h => by cases h.1) (Or.inl ⟨by rfl, fun w hSw => ?_⟩) hS0 ?_
      · obtain ⟨s1, s2, s3⟩ := hSw
        go_simp
      try simp only [Act.put, List.setIfInBounds_toArray, List.set_cons_zero, List.set_cons_succ]
      refine wpAnyH_take (i := 4) (v := .pointer (some ⟨ob, 4, none⟩)) rfl (by kernel_rfl) (by kernel_rfl) (by kernel_rfl) (fun _ _ _ h => by cases h.1) (Or.inl ⟨by rfl, fun w hSw => ?_⟩) hS0 ?_
      · obtain ⟨s1, s2, s3⟩ := hSw
        go_simp
      try simp only [Act.put, List.setIfInBounds_toArray, List.set_cons_zero, List.set_cons_succ]
      refine wpAnyH_take (i := 5) (v := .int .i64 (xi : Int)) rfl (by kernel_rfl) (by kernel_rfl) (by kernel_rfl) (fun _ _ _ h => by cases h.1) (Or.inl ⟨by rfl, fun w hSw => ?_⟩) hS0 ?_
      · obtain ⟨s1, s2, s3⟩ := hSw
        go_simp
      try simp only [Act.put, List.setIfInBounds_toArray, List.set_cons_zero, List.set_cons_succ]
      refine wpAnyH_ready (rs := [6]) (by kernel_rfl) (by simp) (AllReadyH.cons rfl (fun K hK => ?_) AllReadyH.nil)
      go_simp
      refine (word_wd ob 4 aC lenC capC fC xi _ W.heap.size hlenC hxi (by exact e4) (by exact e5) (by exact HRv.out)).mono ?_
      rintro e V1 ⟨rfl, rfl⟩
      refine hK.out _ _ hS0 (fun _ => ?_)
      clear hK K
      try simp only [Act.put, List.setIfInBounds_toArray, List.set_cons_zero, List.set_cons_succ]
      refine wpAnyH_take (i := 7) (v := .int .u64 ((xw &&& wd lenC fC xi : Nat) : Int)) rfl (by kernel_rfl) (by kernel_rfl) (by kernel_rfl) (fun _ _ _ h => by cases h.1) (Or.inl ⟨by rfl, fun w hSw => ?_⟩) hS0 ?_
      · obtain ⟨s1, s2, s3⟩ := hSw
        go_simp
      try simp only [Act.put, List.setIfInBounds_toArray, List.set_cons_zero, List.set_cons_succ]
      refine wpAnyH_ready (rs := [8]) (by kernel_rfl) (by simp) (AllReadyH.cons rfl (fun K hK => ?_) AllReadyH.nil)
      go_simp
      refine (addWord_step n₀ m bud r bM bF n S cs _ cvk xi (xw &&& wd lenC fC xi) V.drew hn hxn (Nat.lt_of_le_of_lt Nat.and_le_left hx2) hcs hne (St.drew HS.out)).mono ?_
      rintro e V' ⟨rfl, cv', hs', hfr'⟩
      have hS1 := HBX.out cv' V' (Fr.ofDrew hfr')
      refine hK.out _ _ hS1 (fun _ => ?_)
      clear hK K hS0
      try simp only [Act.put, List.setIfInBounds_toArray, List.set_cons_zero, List.set_cons_succ]
      refine wpAnyH_take (i := 9) (v := .bool false) rfl (by kernel_rfl) (by kernel_rfl) (by kernel_rfl) (fun _ _ _ h => by cases h.1) (Or.inl ⟨by rfl, fun w hSw => ?_⟩) hS1 ?_
      · obtain ⟨s1, s2, s3⟩ := hSw
        go_simp
      try simp only [Act.put, List.setIfInBounds_toArray, List.set_cons_zero, List.set_cons_succ]
      refine wpAnyH_done (by kernel_rfl) ⟨rfl, rfl, cv', hs', Fr.ofDrew hfr'⟩ _
    · rintro e a' V' ⟨rfl, ha, cv', hs', hfr'⟩
      rename_i QA hpre QB K hK
      refine hK a' V' (wpIn_cond_false ha (wpIn_skip ?_))
      obtain ⟨k1, k2⟩ := HK.out.2 cv' V' hfr'
      exact ⟨k1, k2, cv', by rw [List.map_append]; exact hs', Fr.trans HFr.out hfr'⟩
  case done =>
    rintro D ys V hD hys ⟨cvk, hs, hfr⟩ hK
    gi_wp2
    refine ⟨by simp, .inl ⟨_, _, rfl, run_takeDeferred hK, ?_⟩⟩
    have hg := grownBy_putObj' V D (.deferred none)
    refine ⟨_, results_none rfl _ _ _, ⟨_, rfl⟩, cvk, ?_, hg0.trans (hfr.grownBy hg (fun r e => by cases e; exact hD))⟩
    rw [← hys, List.map_map]
    exact St.grownBy hs hg (fun r e => by cases e; exact ⟨_, hK, rfl⟩)
  case stop =>
    rintro D c pre V _ _ h _
    exact h.elim
end Follow
end Go.Proofs.YbulkcrmgDoor
