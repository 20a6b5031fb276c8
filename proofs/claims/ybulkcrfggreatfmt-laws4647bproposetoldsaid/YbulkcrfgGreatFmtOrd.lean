/-
  LawS4647BPropose: the pool's values in order; sorted lists; slices.Compact of a sorted list; the search.
-/
import Derived.Test.YbulkcrfgGreatFmtAcc
import Derived.Shelf.Spec.SearchS
import Derived.Sort.OwnSorted
import Derived.Lib.OwnBridge
namespace Go.Proofs.YbulkcrfgGreatFmt
open Go.RowKit
namespace Propose
open Kit

abbrev Bs := List UInt8

theorem lt_sorted_eq : ∀ (a b : List Bs), a.Pairwise (· < ·) → b.Pairwise (· < ·) → (∀ x, x ∈ a ↔ x ∈ b) → a = b
  | [], [], _, _, _ => rfl
  | [], y :: ys, _, _, h => absurd ((h y).2 (by simp)) (by simp)
  | x :: xs, [], _, _, h => absurd ((h x).1 (by simp)) (by simp)
  | x :: xs, y :: ys, ha, hb, h => by
    rw [List.pairwise_cons] at ha hb
    have hxy : x = y := by
      rcases List.mem_cons.1 ((h x).1 (by simp)) with h1 | h1
      · exact h1
      rcases List.mem_cons.1 ((h y).2 (by simp)) with h2 | h2
      · exact h2.symm
      exact absurd (List.lt_trans (ha.1 y h2) (hb.1 x h1)) (List.lt_irrefl _)
    subst hxy
    rw [lt_sorted_eq xs ys ha.2 hb.2 ?_]
    intro z
    constructor
    · intro hz
      rcases List.mem_cons.1 ((h z).1 (by simp [hz])) with h1 | h1
      · subst h1; exact absurd (ha.1 z hz) (List.lt_irrefl _)
      · exact h1
    · intro hz
      rcases List.mem_cons.1 ((h z).2 (by simp [hz])) with h1 | h1
      · subst h1; exact absurd (hb.1 z hz) (List.lt_irrefl _)
      · exact h1

theorem compact_upto (d : Array Bs) (hs : ∀ i j, i < j → j < d.size → d[i]! ≤ d[j]!) (m : Nat) (hm : m ≤ d.size) :
    (Lib.compactUpTo d m).Pairwise (· < ·) ∧ (∀ x ∈ Lib.compactUpTo d m, ∃ i, i < m ∧ x = d[i]!) ∧ ∀ i, i < m → d[i]! ∈ Lib.compactUpTo d m := by
  induction m with
  | zero => exact ⟨by simp [Lib.compactUpTo], by simp [Lib.compactUpTo], fun i hi => absurd hi (by omega)⟩
  | succ m ih =>
    obtain ⟨h1, h2, h3⟩ := ih (by omega)
    rw [Lib.compactUpTo_succ]
    cases hk : Lib.keeps d m with
    | true =>
      simp only [if_true]
      have hk' : m = 0 ∨ d[m]! ≠ d[m - 1]! := of_decide_eq_true hk
      refine ⟨?_, ?_, ?_⟩
      · rw [List.pairwise_append]
        refine ⟨h1, by simp, ?_⟩
        intro a ha b hb
        obtain rfl := List.mem_singleton.1 hb
        obtain ⟨i, hi, rfl⟩ := h2 a ha
        rcases hk' with hk' | hk'
        · omega
        have l1 : d[m - 1]! < d[m]! := Std.lt_of_le_of_ne (hs (m - 1) m (by omega) (by omega)) (fun e => hk' e.symm)
        by_cases hi1 : i = m - 1
        · rw [hi1]; exact l1
        · exact List.lt_of_le_of_lt (hs i (m - 1) (by omega) (by omega)) l1
      · intro x hx
        rcases List.mem_append.1 hx with hx | hx
        · obtain ⟨i, hi, e⟩ := h2 x hx
          exact ⟨i, by omega, e⟩
        · exact ⟨m, by omega, List.mem_singleton.1 hx⟩
      · intro i hi
        by_cases him : i = m
        · subst him; simp
        · exact List.mem_append_left _ (h3 i (by omega))
    | false =>
      simp only [Bool.false_eq_true, if_false, List.append_nil]
      have hk' : ¬ (m = 0 ∨ d[m]! ≠ d[m - 1]!) := of_decide_eq_false hk
      refine ⟨h1, fun x hx => ?_, fun i hi => ?_⟩
      · obtain ⟨i, hi, e⟩ := h2 x hx
        exact ⟨i, by omega, e⟩
      · by_cases him : i = m
        · subst him
          have e : d[i]! = d[i - 1]! := Classical.byContradiction fun h => hk' (.inr h)
          rw [e]
          exact h3 (i - 1) (by omega)
        · exact h3 i (by omega)

theorem compact_sorted (ss : List Bs) :
    (Lib.compact (ss.mergeSort fun x y => decide (x ≤ y))).Pairwise (· < ·) ∧ ∀ x, x ∈ Lib.compact (ss.mergeSort fun x y => decide (x ≤ y)) ↔ x ∈ ss := by
  have hp : List.Pairwise (fun a b => decide (a ≤ b) = true) (ss.mergeSort fun x y => decide (x ≤ y)) :=
    List.pairwise_mergeSort (le := fun x y => decide (x ≤ y)) (fun a b c h1 h2 => decide_eq_true (Std.le_trans (of_decide_eq_true h1) (of_decide_eq_true h2))) (fun a b => by
      rcases Std.le_total (a := a) (b := b) with h | h <;> simp [h]) ss
  obtain ⟨zs, hz⟩ : ∃ zs, zs = ss.mergeSort fun x y => decide (x ≤ y) := ⟨_, rfl⟩
  have hm : ∀ x, x ∈ zs ↔ x ∈ ss := fun x => by rw [hz]; exact (List.mergeSort_perm ss _).mem_iff
  rw [← hz] at hp ⊢
  have hu := compact_upto zs.toArray (fun i j hij hj => by
    have hj' : j < zs.length := by simpa using hj
    have := List.pairwise_iff_getElem.1 hp i j (by omega) hj' hij
    simpa [getElem!_pos, hj', show i < zs.length by omega] using of_decide_eq_true this) zs.length (by simp)
  refine ⟨hu.1, fun x => ?_⟩
  rw [← hm x]
  constructor
  · intro hx
    obtain ⟨i, hi, e⟩ := hu.2.1 x hx
    rw [e]
    simp [getElem!_pos, hi]
  · intro hx
    obtain ⟨i, hi, e⟩ := List.getElem_of_mem hx
    have := hu.2.2 i hi
    rw [← e]
    unfold Lib.compact
    simpa [getElem!_pos, hi] using this

/-- The pool's values in increasing order. -/
def ord : List Nat := [0, 1, 4, 2, 3, 5]
def pl (xs : List Nat) : List Bs := xs.map poolL
theorem mem_ord {i : Nat} : i ∈ ord ↔ i < 6 := by
  unfold ord
  constructor
  · intro h; simp at h; omega
  · intro h; simp; omega
theorem ord_sorted : (pl ord).Pairwise (· < ·) := by
  unfold pl ord
  simp only [List.map_cons, List.map_nil, List.pairwise_cons]
  have h5 : poolL 5 = 122 :: Lib.repeatL [122] 256 := rfl
  rw [h5]
  simp only [poolL]
  have hlt : ∀ (a b : UInt8) (x y : Bs), a < b → a :: x < b :: y := fun a b x y h => List.Lex.rel h
  have hin : ∀ (y : UInt8) (x : Bs), [] < y :: x := fun y x => List.Lex.nil
  refine ⟨?_, ?_, ?_, ?_, ?_, ?_, List.Pairwise.nil⟩
  all_goals simp only [List.mem_cons, List.not_mem_nil, or_false, forall_eq_or_imp, forall_eq, false_implies, implies_true]
  · exact ⟨hin _ _, hin _ _, hin _ _, hin _ _, hin _ _⟩
  · exact ⟨List.Lex.cons (hin _ _), hlt _ _ _ _ (by decide), hlt _ _ _ _ (by decide), hlt _ _ _ _ (by decide)⟩
  · exact ⟨hlt _ _ _ _ (by decide), hlt _ _ _ _ (by decide), hlt _ _ _ _ (by decide)⟩
  · exact ⟨hlt _ _ _ _ (by decide), hlt _ _ _ _ (by decide)⟩
  · exact hlt _ _ _ _ (by decide)
theorem pl_filter_sorted (S : Nat → Bool) : (pl (ord.filter S)).Pairwise (· < ·) := by
  unfold pl
  exact List.Pairwise.sublist (List.Sublist.map poolL List.filter_sublist) ord_sorted
theorem mem_pl_filter (S : Nat → Bool) {i : Nat} (hi : i < 6) : poolL i ∈ pl (ord.filter S) ↔ S i = true := by
  unfold pl
  constructor
  · intro h
    obtain ⟨j, hj, e⟩ := List.mem_map.1 h
    obtain ⟨h1, h2⟩ := List.mem_filter.1 hj
    rw [← poolL_inj (mem_ord.1 h1) hi e]
    exact h2
  · intro h
    exact List.mem_map.2 ⟨i, List.mem_filter.2 ⟨mem_ord.2 hi, h⟩, rfl⟩

/-- The union of what lies in order and more of the pool. -/
theorem union_eq (S : Nat → Bool) (xs : List Nat) (hx : ∀ x ∈ xs, x < 6) :
    Lib.compact ((pl (ord.filter S) ++ pl xs).mergeSort fun x y => decide (x ≤ y)) = pl (ord.filter fun i => S i || xs.contains i) := by
  obtain ⟨h1, h2⟩ := compact_sorted (pl (ord.filter S) ++ pl xs)
  refine lt_sorted_eq _ _ h1 (pl_filter_sorted _) fun z => ?_
  rw [h2 z, List.mem_append]
  unfold pl
  simp only [List.mem_map, List.mem_filter, Bool.or_eq_true, List.contains_iff_mem]
  constructor
  · rintro (⟨i, ⟨ho, hs⟩, e⟩ | ⟨i, hi, e⟩)
    · exact ⟨i, ⟨ho, .inl hs⟩, e⟩
    · exact ⟨i, ⟨mem_ord.2 (hx i hi), .inr hi⟩, e⟩
  · rintro ⟨i, ⟨ho, hs | hs⟩, e⟩
    · exact .inl ⟨i, ⟨ho, hs⟩, e⟩
    · exact .inr ⟨i, hs, e⟩

theorem search_at : ∀ (ss : List Bs) (x : Bs), ss.Pairwise (· < ·) → ∃ k, k ≤ ss.length ∧ (∀ t, t < k → ss.getD t x < x) ∧ (∀ t, k ≤ t → ¬ ss.getD t x < x) ∧ (x ∈ ss ↔ k < ss.length ∧ ss.getD k x = x)
  | [], x, _ => ⟨0, Nat.le_refl _, fun t ht => absurd ht (by omega), fun t _ => by simp [List.lt_irrefl], by simp⟩
  | y :: ys, x, hp => by
    rw [List.pairwise_cons] at hp
    obtain ⟨k, h0, h1, h2, h3⟩ := search_at ys x hp.2
    by_cases hyx : y < x
    · refine ⟨k + 1, by simpa using h0, fun t ht => ?_, fun t ht => ?_, ?_⟩
      · cases t with
        | zero => exact hyx
        | succ t => exact h1 t (by omega)
      · cases t with
        | zero => omega
        | succ t => exact h2 t (by omega)
      · rw [List.mem_cons, h3]
        constructor
        · rintro (rfl | h)
          · exact absurd hyx (List.lt_irrefl _)
          · exact ⟨by simpa using h.1, h.2⟩
        · rintro ⟨h, h'⟩
          exact .inr ⟨by simpa using h, h'⟩
    · refine ⟨0, Nat.zero_le _, fun t ht => absurd ht (by omega), fun t _ => ?_, ?_⟩
      · cases t with
        | zero => exact hyx
        | succ t =>
          show ¬ ys.getD t x < x
          rw [List.getD_eq_getElem?_getD]
          cases hg : ys[t]? with
          | none => exact List.lt_irrefl _
          | some z =>
            intro hz
            exact hyx (List.lt_trans (hp.1 z (List.mem_of_getElem? hg)) hz)
      · constructor
        · intro h
          rcases List.mem_cons.1 h with rfl | h
          · exact ⟨by simp, rfl⟩
          · exact absurd (hp.1 x h) hyx
        · rintro ⟨_, h⟩
          have h' : y = x := h
          rw [h']
          simp

end Propose
end Go.Proofs.YbulkcrfgGreatFmt
