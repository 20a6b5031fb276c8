/-
  What the law's loop keeps: the table of lanes and the list of what was seen. No walk.
-/
import Derived.Test.YbulkcrfgFmtLane
import Derived.Test.YbulkcrfgFmtNew
namespace Go.Proofs.YbulkcrfgFmt
open Go.RowKit
namespace Lanes
open Kit

/-- A lane seen: its sender, its index, its period, the block and the place where it lies. -/
structure Sn where
  p : Nat
  idx : Nat
  per : Int
  g : Nat
  s : Nat

def isP : Value → Bool
  | .pointer (some _) => true
  | _ => false

def Enc (xs : List Value) (S : List Sn) : Prop := ∀ j t, S[j]? = some t → xs[j * 4]? = some (.int .i64 t.p) ∧ xs[j * 4 + 1]? = some (.int .i64 t.idx) ∧ xs[j * 4 + 2]? = some (.int .i64 t.per) ∧ xs[j * 4 + 3]? = some (lp t.g t.s)

theorem Enc.snoc {xs : List Value} {S : List Sn} (h : Enc xs S) (hl : xs.length = S.length * 4) (t : Sn) : Enc (xs ++ [.int .i64 t.p, .int .i64 t.idx, .int .i64 t.per, lp t.g t.s]) (S ++ [t]) := by
  intro j u hu
  by_cases hj : j < S.length
  · rw [List.getElem?_append_left hj] at hu
    obtain ⟨h0, h1, h2, h3⟩ := h j u hu
    rw [List.getElem?_append_left (by omega), List.getElem?_append_left (by omega), List.getElem?_append_left (by omega), List.getElem?_append_left (by omega)]
    exact ⟨h0, h1, h2, h3⟩
  · have hj2 : j = S.length := by
      have := (List.getElem?_eq_some_iff.1 hu).1
      simp at this
      omega
    subst hj2
    rw [List.getElem?_concat_length] at hu
    injection hu with hu
    subst hu
    rw [List.getElem?_append_right (by omega), List.getElem?_append_right (by omega), List.getElem?_append_right (by omega), List.getElem?_append_right (by omega)]
    rw [show S.length * 4 - xs.length = 0 by omega, show S.length * 4 + 1 - xs.length = 1 by omega, show S.length * 4 + 2 - xs.length = 2 by omega, show S.length * 4 + 3 - xs.length = 3 by omega]
    exact ⟨rfl, rfl, rfl, rfl⟩

/-- The table of lanes holds T. -/
structure Tab (B M L N each : Nat) (T : List Sn) (rc lc : List Value) (w0 w : World) : Prop where
  row : Row w M 51 rc
  rlen : rc.length = 22
  r5 : rc[5]? = some (.slice (some ⟨L, 0, none⟩) (N * each) (N * each))
  r6 : rc[6]? = some (.int .i64 each)
  bM : B ≤ M
  bL : B ≤ L
  ML : M ≠ L
  lanes : Row w L 56 lc
  llen : lc.length = N * each
  count : lc.countP isP = T.length
  at1 : ∀ t ∈ T, 1 ≤ t.p ∧ t.p ≤ N ∧ t.idx < each ∧ lc[(t.p - 1) * each + t.idx]? = some (lp t.g t.s)
  at2 : ∀ i, i < N * each → lc[i]? = some (.pointer none) ∨ ∃ t ∈ T, i = (t.p - 1) * each + t.idx
  cells : ∀ t ∈ T, w.cell? ⟨t.g, t.s * 7, none⟩ = some (.int .i64 t.p) ∧ w.cell? ⟨t.g, t.s * 7 + 1, none⟩ = some (.int .i64 t.per) ∧ ∃ gc, Row w t.g 67 gc
  spare : (∃ ao cap, rc[8]? = some (.slice ao 0 cap)) ∨ (∃ g s n gc, rc[8]? = some (.slice (some ⟨g, s * 7, none⟩) n n) ∧ 1 ≤ n ∧ s + n = each ∧ Row w g 67 gc ∧ gc.length = each * 7 ∧ (∀ i, s ≤ i → i < each → Fresh gc i) ∧ B ≤ g ∧ ∀ t ∈ T, t.g = g → t.s < s)
  below : Below B w0 w

/-- A later world with the same rows. -/
theorem Tab.of {B M L N each : Nat} {T : List Sn} {rc lc : List Value} {w0 w w' : World} (h : Tab B M L N each T rc lc w0 w)
    (hk : ∀ k t cs, t ≠ 61 → Row w k t cs → w'.heap[k]? = w.heap[k]?) (hb : Below B w0 w') : Tab B M L N each T rc lc w0 w' := by
  refine { h with row := h.row.of_block (hk _ _ _ (by decide) h.row), lanes := h.lanes.of_block (hk _ _ _ (by decide) h.lanes), cells := ?_, spare := ?_, below := hb }
  · intro t ht
    obtain ⟨h1, h2, gc, h3⟩ := h.cells t ht
    have e := hk _ _ _ (by decide) h3
    exact ⟨(World.cell?_of_block (w := w) e).trans h1, (World.cell?_of_block (w := w) e).trans h2, gc, h3.of_block e⟩
  · rcases h.spare with h1 | ⟨g, s, n, gc, h1, h2, h3, h4, h5⟩
    · exact .inl h1
    · exact .inr ⟨g, s, n, gc, h1, h2, h3, h4.of_block (hk _ _ _ (by decide) h4), h5⟩
theorem Tab.keep {B M L N each : Nat} {T : List Sn} {rc lc : List Value} {w0 w w' : World} (h : Tab B M L N each T rc lc w0 w) (hb : Below w.heap.size w w') : Tab B M L N each T rc lc w0 w' :=
  h.of (fun k _ _ _ hr => hb.block k hr.lt) (h.below.trans (hb.mono (by have := h.row.lt; have := h.bM; omega)))
theorem Tab.grown {B M L N each SB cap : Nat} {T S : List Sn} {rc lc xs : List Value} {w0 w w' : World} (h : Tab B M L N each T rc lc w0 w) (ho : w.ownsRow B 61 4 (.slice (some ⟨SB, 0, none⟩) S.length cap) S.length xs) (hSB : B ≤ SB) (hg : w.grownBy w' (some SB)) : Tab B M L N each T rc lc w0 w' := by
  refine h.of (fun k t cs ht hr => hg.block k hr.lt ?_) (h.below.trans ⟨hg.os, hg.tape, hg.output, hg.size, fun k hk => hg.block k ?_ ?_⟩)
  · intro e
    injection e with e
    exact Row.ne_own hr ho ht e
  · have := h.row.lt; have := h.bM; omega
  · intro e
    injection e with e
    omega

theorem at_inj {each p q i j : Nat} (hp : 1 ≤ p) (hq : 1 ≤ q) (hi : i < each) (hj : j < each) (h : (p - 1) * each + i = (q - 1) * each + j) : p = q ∧ i = j := by
  have e1 : ((p - 1) * each + i) / each = p - 1 := by
    rw [Nat.add_comm, Nat.add_mul_div_right _ _ (by omega), Nat.div_eq_of_lt hi]; omega
  have e2 : ((q - 1) * each + j) / each = q - 1 := by
    rw [Nat.add_comm, Nat.add_mul_div_right _ _ (by omega), Nat.div_eq_of_lt hj]; omega
  rw [h] at e1
  have : p = q := by omega
  subst this
  exact ⟨rfl, by omega⟩
theorem at_lt {N each p i : Nat} (hp : 1 ≤ p) (hp2 : p ≤ N) (hi : i < each) : (p - 1) * each + i < N * each := by
  have h1 : (p - 1) * each + each = p * each := by
    rw [← Nat.succ_mul]; congr 1; omega
  have h2 : p * each ≤ N * each := Nat.mul_le_mul_right _ hp2
  omega

theorem Tab.isNil {B M L N each p idx : Nat} {T : List Sn} {rc lc : List Value} {w0 w : World} (h : Tab B M L N each T rc lc w0 w) (hp : 1 ≤ p) (hp2 : p ≤ N) (hi : idx < each) (hno : ∀ t ∈ T, ¬ (t.p = p ∧ t.idx = idx)) : lc[(p - 1) * each + idx]? = some (.pointer none) := by
  rcases h.at2 _ (at_lt hp hp2 hi) with h1 | ⟨t, ht, h1⟩
  · exact h1
  · obtain ⟨a1, a2, a3, _⟩ := h.at1 t ht
    obtain ⟨e1, e2⟩ := at_inj hp a1 hi a3 h1
    exact absurd ⟨e1.symm, e2.symm⟩ (hno t ht)

theorem Tab.lane {B M L N each p idx : Nat} {per : Int} {T : List Sn} {rc lc : List Value} {w0 w w' : World} {g s n : Nat} {sp : Value} {gc : List Value} (h : Tab B M L N each T rc lc w0 w) (hp : 1 ≤ p) (hp2 : p ≤ N) (hi : idx < each) (hno : ∀ t ∈ T, ¬ (t.p = p ∧ t.idx = idx))
    (nl : NewLane M L ((p - 1) * each + idx) each p per rc lc w w' g s n sp gc) :
    Tab B M L N each (T ++ [⟨p, idx, per, g, s⟩]) (rc.set 8 sp) (lc.set ((p - 1) * each + idx) (lp g s)) w0 w' ∧ (∀ t ∈ T, ¬ (t.g = g ∧ t.s = s)) := by
  have hnil := h.isNil hp hp2 hi hno
  have hlt := at_lt hp hp2 hi
  have hg1 : B ≤ g ∧ ∀ t ∈ T, t.g = g → t.s < s := by
    rcases nl.at_ with ⟨h1, h2, _⟩ | ⟨h1, h2⟩
    · refine ⟨by have := h.row.lt; have := h.bM; omega, fun t ht e => ?_⟩
      obtain ⟨_, _, gc', hr⟩ := h.cells t ht
      have := hr.lt
      omega
    · rcases h.spare with ⟨ao, cap, h3⟩ | ⟨g', s', n', gc', h3, _, _, _, _, _, h4, h5⟩
      · rw [h2] at h3
        injection h3 with h3
        injection h3 with _ h3
        omega
      · rw [h2] at h3
        injection h3 with h3
        injection h3 with h3
        injection h3 with h3
        injection h3 with h3 h6
        subst h3
        have : s = s' := by omega
        subst this
        exact ⟨h4, h5⟩
  have hdis : ∀ t ∈ T, ¬ (t.g = g ∧ t.s = s) := fun t ht ⟨e1, e2⟩ => by have := hg1.2 t ht e1; omega
  refine ⟨{ row := nl.row, rlen := by simp [h.rlen], r5 := by rw [List.getElem?_set_ne (by omega)]; exact h.r5, r6 := by rw [List.getElem?_set_ne (by omega)]; exact h.r6, bM := h.bM, bL := h.bL, ML := h.ML, lanes := nl.lanes, llen := by simp [h.llen], count := ?_, at1 := ?_, at2 := ?_, cells := ?_, spare := ?_, below := ?_ }, hdis⟩
  · have hl : (p - 1) * each + idx < lc.length := by rw [h.llen]; exact hlt
    rw [List.countP_set hl, h.count]
    have : lc[(p - 1) * each + idx] = .pointer none := by
      rw [List.getElem?_eq_getElem hl] at hnil
      injection hnil
    simp [this, isP, lp]
  · intro t ht
    rcases List.mem_append.1 ht with ht | ht
    · obtain ⟨a1, a2, a3, a4⟩ := h.at1 t ht
      refine ⟨a1, a2, a3, ?_⟩
      rw [List.getElem?_set_ne]
      · exact a4
      · intro e
        obtain ⟨e1, e2⟩ := at_inj hp a1 hi a3 e
        exact hno t ht ⟨e1.symm, e2.symm⟩
    · obtain rfl := List.mem_singleton.1 ht
      exact ⟨hp, hp2, hi, by rw [List.getElem?_set_self (by rw [h.llen]; exact hlt)]⟩
  · intro i hi'
    by_cases e : i = (p - 1) * each + idx
    · exact .inr ⟨⟨p, idx, per, g, s⟩, by simp, e⟩
    · rcases h.at2 i hi' with h1 | ⟨t, ht, h1⟩
      · left
        rw [List.getElem?_set_ne (Ne.symm e)]
        exact h1
      · exact .inr ⟨t, by simp [ht], h1⟩
  · intro t ht
    rcases List.mem_append.1 ht with ht | ht
    · obtain ⟨h1, h2, gc', h3⟩ := h.cells t ht
      by_cases e : t.g = g
      · have hlt' := hg1.2 t ht e
        rw [e] at h1 h2 ⊢
        exact ⟨(nl.keepg _ (by omega)).trans h1, (nl.keepg _ (by omega)).trans h2, gc, nl.lrow⟩
      · have eM : t.g ≠ M := fun e => by
          rw [e] at h3
          have h4 := h.row
          unfold Row at h3 h4
          rw [h3] at h4
          cases h4
        have eL : t.g ≠ L := fun e => by
          rw [e] at h3
          have h4 := h.lanes
          unfold Row at h3 h4
          rw [h3] at h4
          cases h4
        have ek := nl.keep t.g h3.lt eM eL e
        exact ⟨(World.cell?_of_block (w := w) ek).trans h1, (World.cell?_of_block (w := w) ek).trans h2, gc', h3.of_block ek⟩
    · obtain rfl := List.mem_singleton.1 ht
      refine ⟨?_, ?_, gc, nl.lrow⟩
      · rw [nl.lrow.cell]; exact nl.c0
      · rw [nl.lrow.cell]; exact nl.c1
  · rcases nl.spare with ⟨_, ao, cap, h2⟩ | ⟨h1, h2⟩
    · exact .inl ⟨ao, cap, by rw [List.getElem?_set_self (by rw [h.rlen]; omega), h2]⟩
    · refine .inr ⟨g, s + 1, n, gc, by rw [List.getElem?_set_self (by rw [h.rlen]; omega), h2], h1, nl.sum, nl.lrow, nl.llen, fun i hi1 hi2 => nl.fresh i (by omega) hi2, hg1.1, fun t ht e => ?_⟩
      rcases List.mem_append.1 ht with ht | ht
      · have := hg1.2 t ht e; omega
      · obtain rfl := List.mem_singleton.1 ht
        show s < s + 1
        omega
  · refine h.below.trans ⟨nl.os, nl.tape, nl.output, nl.size, fun k hk => nl.keep k ?_ ?_ ?_ ?_⟩
    · have := h.row.lt; have := h.bM; omega
    · have := h.bM; omega
    · have := h.bL; omega
    · have := hg1.1; omega

/-- What lane_new asks of the spare lanes. -/
theorem Tab.spare' {B M L N each : Nat} {T : List Sn} {rc lc : List Value} {w0 w : World} (h : Tab B M L N each T rc lc w0 w) : (∃ ao cap, rc[8]? = some (.slice ao 0 cap)) ∨ (∃ g s n gc, rc[8]? = some (.slice (some ⟨g, s * 7, none⟩) n n) ∧ 1 ≤ n ∧ s + n = each ∧ Row w g 67 gc ∧ gc.length = each * 7 ∧ ∀ i, s ≤ i → i < each → Fresh gc i) := by
  rcases h.spare with h1 | ⟨g, s, n, gc, h1, h2, h3, h4, h5, h6, _⟩
  · exact .inl h1
  · exact .inr ⟨g, s, n, gc, h1, h2, h3, h4, h5, h6⟩
theorem Tab.sp {B M L N each : Nat} {T : List Sn} {rc lc : List Value} {w0 w : World} (h : Tab B M L N each T rc lc w0 w) : ∃ ao k cap, rc[8]? = some (.slice ao k cap) := by
  rcases h.spare with ⟨ao, cap, h1⟩ | ⟨g, s, n, gc, h1, _⟩
  · exact ⟨_, _, _, h1⟩
  · exact ⟨_, _, _, h1⟩
end Lanes
end Go.Proofs.YbulkcrfgFmt
