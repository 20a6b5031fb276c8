import Derived.Test.YbulkcrdqLocks
import Derived.Test.YbulkcrdqKit
import Derived.Defers
import Derived.Conc.SmallLaws
namespace Go.Proofs.Ybulkcrdq
open Go.RowKit Go.MuLone
namespace BAdd
open Kit
theorem info72 : (Yba.prog.info? 72).map (fun i => (i.zero, i.size, i.bytes)) = some (some (.pointer none), 1, 8) := by kernel_rfl
theorem info45 : (Yba.prog.info? 45).map (fun i => (i.zero, i.size, i.bytes)) = some (some (.agg #[]), 0, 0) := by kernel_rfl
def ptr (g : Nat) : Value := .pointer (some ⟨g, 0, none⟩)
/-- A member's cells as add leaves them. -/
def memc (i : Int) (c : Option Nat) : List Value := [.int .i64 i, .pointer none, .string ⟨#[]⟩, .chan c, .int .u8 0, .int .i64 0, .bool false]

set_option maxHeartbeats 1000000 in
set_option maxRecDepth 20000 in
theorem add_any (w : World) (r n base g1 cap : Nat) (rc xs : List Value) (hr : Row w r 71 rc) (h32 : rc[32]? = some (.int .i32 0)) (h35 : rc[35]? = some (.slice (some ⟨g1, 0, none⟩) n cap))
    (hn : n ≤ 4096) (hown : w.ownsRow base 72 1 (.slice (some ⟨g1, 0, none⟩) n cap) n xs) (hrb : r < base) (hbase : base ≤ w.heap.size) :
    Calls Yba.prog 7 #[.pointer (some ⟨r, 0, none⟩)] w fun e w' => ∃ g c g2 cap2, e = .returned (ptr g) ∧ w.heap.size ≤ g ∧ Row w' g 76 (memc n (some c)) ∧ Row w' r 71 (rc.set 35 (.slice (some ⟨g2, 0, none⟩) (n + 1) cap2)) ∧
      w'.ownsRow base 72 1 (.slice (some ⟨g2, 0, none⟩) (n + 1) cap2) (n + 1) (xs ++ [ptr g]) ∧ w.heap.size ≤ w'.heap.size ∧ w'.os = w.os ∧ w'.tape = w.tape ∧ w'.output = w.output ∧ (g2 = g1 ∨ w.heap.size ≤ g2) ∧ (∀ k, k < w.heap.size → k ≠ r → k ≠ g1 → w'.heap[k]? = w.heap[k]?) := by
  obtain ⟨i72, hi72, hz72, hs72, hb72⟩ := info_parts info72
  have c32 : w.cell? ⟨r, 32, none⟩ = some (.int .i32 0) := by rw [hr.cell, h32]
  have c35 : w.cell? ⟨r, 35, none⟩ = some (.slice (some ⟨g1, 0, none⟩) n cap) := by rw [hr.cell, h35]
  have f32 := hr.frozen 32
  have f35 := hr.frozen 35
  have hrw : r < w.heap.size := hr.lt
  have HR : Hid (Row w r 71 rc) := hr
  have Hown : Hid (World.ownsRow _ _ _ _ _ _ _) := hown
  have H3 : Hid (_ ∧ _) := ⟨h32, h35⟩
  clear hr hown h32 h35
  obtain ⟨i45, hi45, _, _, hb45⟩ := info_parts info45
  have hmk : ∀ W : World, (Instr.makeChan 44 (.int .i64 0)).run Yba.prog W = .ok (.chan (some W.heap.size)) (W.alloc (.chan 0 #[] false 0 0 false)) := fun W => by
    have := Conc.run_makeChan (w := W) Yba.underlying44 hi45 .i64 0 (by omega) (by simp)
    simpa using this
  go_enter_defers Yba.func7, Yba.ntmps7
  go_wp2_with (go_at_call 13; refine (lock_free Locks.muLib ⟨r, 32, none⟩ _ c32 f32).mono ?_; rintro e w' ⟨rfl, rfl⟩)
  go_region
  have hown1 := ((((ownsRow_setCell_below Hown.out (a := ⟨r, 32, none⟩) hrb (.int .i32 1)).alloc (.chan 0 #[] false 0 0 false)).alloc (.cells (memc n (some w.heap.size)).toArray 76)).drew).alloc (.cells #[ptr (w.heap.size + 1)] 72)
  have Hown1 : Hid (World.ownsRow _ _ _ _ _ _ _) := hown1
  clear hown1
  go_wp2_with (at_builtin; refine wpList_append_told _ rfl _ _ 63 rfl base 72 i72 (.pointer none) 1 8 Yba.underlying63 hi72 hz72 hs72 hb72 rfl (by decide) g1 n cap xs rfl Hown1.out ⟨w.heap.size + 2, 0, none⟩ 1 1 [ptr (w.heap.size + 1)] rfl rfl ?c1 ?c2 (by decide) ?c3 ?c4 ?c5 ?_)
  case c1 =>
    intro t u ht
    match t, ht with
    | 0, ht => simp at ht; subst ht; rw [show (⟨w.heap.size + 2, 0, none⟩ : Addr).add 0 = ⟨w.heap.size + 2, 0, none⟩ from rfl, World.cell?_drew, World.cell?_alloc_at _ _ _ _ (by simp)]; rfl
  case c2 => intro u hu; simp at hu; subst hu; rfl
  case c3 => unfold maxLen; omega
  case c4 => omega
  case c5 => simp; omega
  intro g2 cap2 w1 hown2 hgrow hwh
  have HF : Hid (Row w1 (w.heap.size + 1) 76 (memc n (some w.heap.size)) ∧ Row w1 r 71 (rc.set 32 (.int .i32 1)) ∧ w1.ownsRow base 72 1 (.slice (some ⟨g2, 0, none⟩) (n + 1) cap2) (n + 1) (xs ++ [ptr (w.heap.size + 1)]) ∧ w.heap.size + 3 ≤ w1.heap.size ∧ w1.os = w.os ∧ w1.tape = w.tape ∧ w1.output = w.output ∧
      (g2 = g1 ∨ w.heap.size ≤ g2) ∧ (∀ k, k < w.heap.size → k ≠ r → k ≠ g1 → w1.heap[k]? = w.heap[k]?)) := by
    have hlt := Hown.out.lt g1 rfl
    have hs := hgrow.size
    simp at hs
    refine ⟨?_, ?_, hown2, by omega, hgrow.os, hgrow.tape, hgrow.output, by rcases hwh with h | h; exact .inl h; exact .inr (by first | omega | (simp at h; omega)), ?_⟩
    · refine Row.of_block ?_ (hgrow.block (w.heap.size + 1) (by simp) (fun e => by injection e with e; omega))
      exact (Row.new _ 76 (memc n (some w.heap.size)) _ (by simp)).alloc _
    · refine Row.of_block ?_ (hgrow.block r (by simp; omega) (fun e => by injection e with e; omega))
      exact (((HR.out.set 32 _).alloc _).alloc _).alloc _
    · intro k hk hkr hko
      rw [hgrow.block k (by simp; omega) (fun e => hko (by injection e))]
      show (World.heap (World.drew (World.alloc (World.alloc (World.alloc (World.setCell w _ _) _) _) _)))[k]? = _
      rw [show ∀ v : World, v.drew.heap = v.heap from fun _ => rfl, Below.heap_alloc _ _ _ (by simp; omega), Below.heap_alloc _ _ _ (by simp; omega), Below.heap_alloc _ _ _ (by simp; omega), heap_setCell_other _ _ _ _ hkr]
  clear hown2 hgrow Hown1 hwh
  obtain ⟨cx, hcx⟩ : ∃ cx, w1.cell? ⟨r, 35, none⟩ = some cx := ⟨_, by rw [HF.out.2.1.cell, List.getElem?_set_ne (by omega)]; exact H3.out.2⟩
  have k32 : w1.cell? ⟨r, 32, none⟩ = some (.int .i32 1) := by
    rw [HF.out.2.1.cell, List.getElem?_set_self]
    exact (List.getElem?_eq_some_iff.1 H3.out.1).1
  have kf35 := HF.out.2.1.frozen 35
  have kf32 := HF.out.2.1.frozen 32
  go_wp2
  refine leaves_cons (f := 9) (args := #[.pointer (some ⟨r, 32, none⟩)]) (by simp) (by simp [go_sem]) ?_
  refine (unlock_deferred Locks.muLib ⟨r, 32, none⟩ .returning _ ?_ ?_).mono ?_
  · exact (World.cell?_setCell_other _ ⟨r, 35, none⟩ ⟨r, 32, none⟩ _ (by simp)).trans k32
  · simp [kf32]
  rintro e u' w'' ⟨rfl, rfl, rfl⟩
  refine ⟨_, results_tmp rfl _ _ _, w.heap.size + 1, w.heap.size, g2, cap2, rfl, by omega, ?_⟩
  obtain ⟨a1, a2, a3, a4, a5, a6, a7, a9, a8⟩ := HF.out
  have hsz : ∀ v u : Value, ((w1.setCell ⟨r, 35, none⟩ v).setCell ⟨r, 32, none⟩ u).heap.size = w1.heap.size := fun v u => by simp [World.setCell]
  refine ⟨(a1.setOther _ _ (by simp; omega)).setOther _ _ (by simp; omega), ?_, ownsRow_setCell_below (ownsRow_setCell_below a3 hrb _) hrb _, by rw [hsz]; omega, a5, a6, a7, a9, ?_⟩
  · have h := (a2.set 35 (.slice (some ⟨g2, 0, none⟩) (n + 1) cap2)).set 32 (.int .i32 0)
    have e : ∀ mv' : Value, ((rc.set 32 (.int .i32 1)).set 35 mv').set 32 (.int .i32 0) = rc.set 35 mv' := fun mv' => by
      rw [List.set_comm _ _ (by omega : (35 : Nat) ≠ 32), List.set_set]
      congr 1
      apply List.ext_getElem?
      intro j
      by_cases hj : j = 32
      · subst hj
        rw [List.getElem?_set_self (List.getElem?_eq_some_iff.1 H3.out.1).1, H3.out.1]
      · rw [List.getElem?_set_ne (by omega)]
    rw [e] at h
    exact h
  · intro k hk hkr hko
    rw [heap_setCell_other _ _ _ _ hkr, heap_setCell_other _ _ _ _ hkr]
    exact a8 k hk hkr hko
end BAdd
end Go.Proofs.Ybulkcrdq
