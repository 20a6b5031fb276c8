/-
  LawS4647BPropose: the plain law: propose over sorted lists is what the law counts.
-/
import Derived.Test.YbulkcrfgGreatFmtHeard
namespace Go.Proofs.YbulkcrfgGreatFmt
open Go.RowKit
namespace Propose
open Kit

/-- Counting the changes in a sorted row: of those k that are chosen, how many members, and the last. -/
def chg (f : Nat → Nat) (p : Nat → Bool) : Nat → Nat × Nat
  | 0 => (0, 0)
  | k + 1 => if f k ≠ (chg f p k).2 ∧ p k = true then ((chg f p k).1 + 1, f k) else chg f p k
/-- Member v is met among the first k. -/
def met (f : Nat → Nat) (p : Nat → Bool) (v : Nat) : Nat → Bool
  | 0 => false
  | k + 1 => met f p v k || (decide (f k = v) && p k)
theorem met_spec (f : Nat → Nat) (p : Nat → Bool) (v k : Nat) : met f p v k = true ↔ ∃ i, i < k ∧ f i = v ∧ p i = true := by
  induction k with
  | zero => simp [met]
  | succ k ih =>
    simp only [met, Bool.or_eq_true, ih, Bool.and_eq_true, decide_eq_true_eq]
    constructor
    · rintro (⟨i, h1, h2, h3⟩ | ⟨h2, h3⟩)
      · exact ⟨i, by omega, h2, h3⟩
      · exact ⟨k, by omega, h2, h3⟩
    · rintro ⟨i, h1, h2, h3⟩
      by_cases e : i = k
      · subst e; exact .inr ⟨h2, h3⟩
      · exact .inl ⟨i, by omega, h2, h3⟩
/-- How many of 1, .., F are met. -/
def cntm (q : Nat → Bool) : Nat → Nat
  | 0 => 0
  | F + 1 => cntm q F + if q (F + 1) then 1 else 0
theorem cntm_congr {p q : Nat → Bool} : ∀ F, (∀ v, 1 ≤ v → v ≤ F → p v = q v) → cntm p F = cntm q F
  | 0, _ => rfl
  | F + 1, h => by
    show cntm p F + _ = cntm q F + _
    rw [cntm_congr F (fun v h1 h2 => h v h1 (by omega)), h (F + 1) (by omega) (by omega)]
theorem cntm_add (q : Nat → Bool) (v : Nat) (h1 : 1 ≤ v) (hq : q v = false) : ∀ F, v ≤ F → cntm (fun u => q u || decide (v = u)) F = cntm q F + 1
  | 0, h => by omega
  | F + 1, h => by
    show cntm _ F + _ = cntm q F + _ + 1
    by_cases e : v = F + 1
    · subst e
      rw [cntm_congr F (q := q) (fun u h2 h3 => by simp; omega)]
      simp [hq]
    · rw [cntm_add q v h1 hq F (by omega)]
      simp [e]
      omega
theorem cntm_none {q : Nat → Bool} : ∀ F, (∀ v, 1 ≤ v → v ≤ F → q v = false) → cntm q F = 0
  | 0, _ => rfl
  | F + 1, h => by
    show cntm q F + _ = 0
    rw [cntm_none F (fun v h1 h2 => h v h1 (by omega)), h (F + 1) (by omega) (by omega)]
    rfl
/-- The last that was counted: 0, or the greatest member met. -/
theorem chg_last (f : Nat → Nat) (p : Nat → Bool) (n : Nat) (hs : ∀ i j, i ≤ j → j < n → f i ≤ f j) (k : Nat) (hk : k ≤ n) : (∀ v, met f p v k = true → v ≤ (chg f p k).2) ∧ ((chg f p k).2 = 0 ∨ met f p (chg f p k).2 k = true) := by
  induction k with
  | zero => exact ⟨fun v h => by simp [met] at h, .inl rfl⟩
  | succ k ih =>
    obtain ⟨h1, h2⟩ := ih (by omega)
    have hmk : ∀ v, met f p v k = true → v ≤ f k := fun v hv => by
      obtain ⟨i, a, b, _⟩ := (met_spec f p v k).1 hv
      rw [← b]
      exact hs i k (by omega) (by omega)
    by_cases hc : f k ≠ (chg f p k).2 ∧ p k = true
    · have e : chg f p (k + 1) = ((chg f p k).1 + 1, f k) := by
        show (if _ then _ else _) = _
        rw [if_pos hc]
      rw [e]
      refine ⟨fun v hv => ?_, .inr ?_⟩
      · obtain ⟨i, a, b, _⟩ := (met_spec f p v (k + 1)).1 hv
        rw [← b]
        exact hs i k (by omega) (by omega)
      · exact (met_spec f p _ (k + 1)).2 ⟨k, by omega, rfl, hc.2⟩
    · have e : chg f p (k + 1) = chg f p k := by
        show (if _ then _ else _) = _
        rw [if_neg hc]
      rw [e]
      refine ⟨fun v hv => ?_, ?_⟩
      · obtain ⟨i, a, b, c⟩ := (met_spec f p v (k + 1)).1 hv
        by_cases e1 : i = k
        · subst e1
          have : f i = (chg f p i).2 := by
            by_cases e2 : f i = (chg f p i).2
            · exact e2
            · exact absurd ⟨e2, c⟩ hc
          omega
        · exact h1 v ((met_spec f p v k).2 ⟨i, by omega, b, c⟩)
      · rcases h2 with h2 | h2
        · exact .inl h2
        · refine .inr ?_
          show (met f p _ k || _) = true
          rw [h2]
          rfl
/-- **The changes counted in a sorted row are the members met.** -/
theorem chg_cnt (f : Nat → Nat) (p : Nat → Bool) (n N : Nat) (hs : ∀ i j, i ≤ j → j < n → f i ≤ f j) (hf : ∀ i, i < n → 1 ≤ f i ∧ f i ≤ N) (k : Nat) (hk : k ≤ n) : (chg f p k).1 = cntm (fun v => met f p v k) N := by
  induction k with
  | zero => exact (cntm_none N (fun v _ _ => rfl)).symm
  | succ k ih =>
    have ih := ih (by omega)
    obtain ⟨h1, h2⟩ := chg_last f p n hs k (by omega)
    have hfk := hf k (by omega)
    cases hp : p k with
    | false =>
      have e : chg f p (k + 1) = chg f p k := by
        show (if _ then _ else _) = _
        rw [if_neg (by rw [hp]; simp)]
      rw [e, ih]
      exact cntm_congr N (fun v _ _ => by simp [met, hp])
    | true =>
      by_cases hc : f k = (chg f p k).2
      · have e : chg f p (k + 1) = chg f p k := by
          show (if _ then _ else _) = _
          rw [if_neg (by intro h; exact h.1 hc)]
        rw [e, ih]
        have hm : met f p (f k) k = true := by
          rcases h2 with h2 | h2
          · omega
          · rw [hc]; exact h2
        refine cntm_congr N (fun v _ _ => ?_)
        by_cases ev : f k = v
        · subst ev
          simp [met, hm]
        · simp [met, ev]
      · have e : chg f p (k + 1) = ((chg f p k).1 + 1, f k) := by
          show (if _ then _ else _) = _
          rw [if_pos ⟨hc, hp⟩]
        rw [e]
        show (chg f p k).1 + 1 = _
        have hm : met f p (f k) k = false := by
          rw [← Bool.not_eq_true]
          intro hm
          have h3 := h1 _ hm
          rcases h2 with h4 | h4
          · omega
          · obtain ⟨i, a, b, _⟩ := (met_spec f p _ k).1 h4
            have := hs i k (by omega) (by omega)
            omega
        rw [ih, ← cntm_add (fun v => met f p v k) (f k) hfk.1 hm N hfk.2]
        refine cntm_congr N (fun v _ _ => ?_)
        simp [met, hp]

theorem nmg_chg (a : Nat → AL) (me t k : Nat) : nmg a me t k = chg (fun i => (a i).f) (fun i => decide ((a i).l = me) && (a i).names t) k := by
  induction k with
  | zero => rfl
  | succ k ih =>
    show (if _ then _ else _) = (if _ then _ else _)
    rw [ih]
    simp only [Bool.and_eq_true, decide_eq_true_eq]
theorem hrd_chg (a : Nat → AL) (me k : Nat) : hrd a me k = chg (fun i => (a i).f) (fun i => decide ((a i).l = me)) k := by
  induction k with
  | zero => rfl
  | succ k ih =>
    show (if _ then _ else _) = (if _ then _ else _)
    rw [ih]
    simp only [decide_eq_true_eq, and_comm]
theorem nmf_met (a : Nat → AL) (f me v k : Nat) : nmf a f me v k = met (fun i => (a i).f) (fun i => decide ((a i).l = me) && (a i).names v) f k := by
  induction k with
  | zero => rfl
  | succ k ih =>
    show (_ || _) = (_ || _)
    rw [ih, Bool.and_assoc]
theorem frm_met (a : Nat → AL) (me k f : Nat) : frm a me k f = met (fun i => (a i).f) (fun i => decide ((a i).l = me)) f k := by
  induction k with
  | zero => rfl
  | succ k ih =>
    by_cases h : (a k).l = me
    · simp [frm, met, h, ih]
    · simp [frm, met, h, ih]
theorem cntf_cntm (a : Nat → AL) (me v n F : Nat) : cntf a me v n F = cntm (fun f => nmf a f me v n) F := by
  induction F with
  | zero => rfl
  | succ F ih =>
    show _ + _ = _ + _
    rw [ih]
theorem hdc_cntm (q : Nat → Bool) (F : Nat) : hdc q F = cntm q F := by
  induction F with
  | zero => rfl
  | succ F ih =>
    show _ + _ = _ + _
    rw [ih]

theorem find_congr : ∀ (xs : List Nat) (p q : Nat → Bool), (∀ x ∈ xs, p x = q x) → xs.find? p = xs.find? q
  | [], _, _, _ => rfl
  | x :: xs, p, q, h => by
    rw [List.find?_cons, List.find?_cons, h x (by simp), find_congr xs p q (fun y hy => h y (by simp [hy]))]
/-- **The plain law.** -/
theorem plain (a : Nat → AL) (me n N q : Nat) (S0 : Nat → Bool) (hs : ∀ i j, i ≤ j → j < n → (a i).f ≤ (a j).f) (hf : ∀ i, i < n → 1 ≤ (a i).f ∧ (a i).f ≤ N) :
    propR a me n q S0 = wantR a me n N q (cnd a me S0 n) (hdc (frm a me n) N) := by
  have h1 : (hrd a me n).1 = hdc (frm a me n) N := by
    rw [hrd_chg, hdc_cntm, chg_cnt _ _ n N hs hf n (Nat.le_refl _)]
    exact cntm_congr N (fun v _ _ => (frm_met a me n v).symm)
  have h2 : ∀ t, (nmg a me t n).1 = cntf a me t n N := fun t => by
    rw [nmg_chg, cntf_cntm, chg_cnt _ _ n N hs hf n (Nat.le_refl _)]
    exact cntm_congr N (fun v _ _ => (nmf_met a v me t n).symm)
  unfold propR wantR
  rw [h1]
  by_cases hq : hdc (frm a me n) N < q
  · rw [if_pos hq, if_neg (by omega)]
  · rw [if_neg hq, if_pos (by omega), List.find?_filter]
    refine find_congr ord _ _ (fun t ht => ?_)
    have ht6 := mem_ord.1 ht
    unfold good wok
    rw [h2]
    obtain rfl | rfl | rfl | rfl | rfl | rfl : t = 0 ∨ t = 1 ∨ t = 2 ∨ t = 3 ∨ t = 4 ∨ t = 5 := by omega
    all_goals simp
end Propose
end Go.Proofs.YbulkcrfgGreatFmt
