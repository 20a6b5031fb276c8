/-
  slices.symMergeCmpFunc: the plain part.
-/
import Derived.Test.YbulkcrfgGreatFmtIns
namespace Go.Proofs.YbulkcrfgGreatFmt
open Go.RowKit
namespace Propose
open Kit

/-- The list at place a is moved up to place k. -/
def mvU (e : Nat → El) (a k : Nat) : Nat → El := fun p => if a ≤ p ∧ p < k then e (p + 1) else if p = k then e a else e p
theorem mvU_zero (e : Nat → El) (a : Nat) : mvU e a a = e := by
  funext p
  unfold mvU
  rw [if_neg (by omega)]
  by_cases h : p = a
  · rw [if_pos h, h]
  · rw [if_neg h]
theorem mvU_succ (e : Nat → El) (a k : Nat) (h : a ≤ k) : swp (mvU e a k) k (k + 1) = mvU e a (k + 1) := by
  funext p
  unfold swp upd
  by_cases h1 : p = k + 1
  · subst h1
    rw [if_pos rfl]
    unfold mvU
    rw [if_neg (by omega), if_pos rfl, if_neg (by omega), if_pos rfl]
  · rw [if_neg h1]
    by_cases h2 : p = k
    · subst h2
      rw [if_pos rfl]
      unfold mvU
      rw [if_neg (by omega), if_neg (by omega), if_pos (by omega)]
    · rw [if_neg h2]
      unfold mvU
      by_cases h3 : a ≤ p ∧ p < k
      · rw [if_pos h3, if_pos (by omega)]
      · rw [if_neg h3, if_neg h2, if_neg (show ¬ (a ≤ p ∧ p < k + 1) by omega), if_neg h1]
theorem mvU_mem (e : Nat → El) {a k b : Nat} (h : a ≤ k) (hk : k < b) : Mem e (mvU e a k) a b :=
  ⟨fun i h1 h2 => by
    unfold mvU
    by_cases h3 : a ≤ i ∧ i < k
    · rw [if_pos h3]; exact ⟨i + 1, by omega, by omega, rfl⟩
    · rw [if_neg h3]
      by_cases h4 : i = k
      · rw [if_pos h4]; exact ⟨a, by omega, by omega, rfl⟩
      · rw [if_neg h4]; exact ⟨i, h1, h2, rfl⟩, fun i hi => by
    unfold mvU
    rw [if_neg (by omega), if_neg (by omega)]⟩
theorem mvU_srt {e : Nat → El} {a i b : Nat} (hS : Srt e (a + 1) b) (hai : a + 1 ≤ i) (_hib : i ≤ b) (h1 : ∀ p, a + 1 ≤ p → p < i → (e p).f ≤ (e a).f) (h2 : ∀ p, i ≤ p → p < b → (e a).f ≤ (e p).f) : Srt (mvU e a (i - 1)) a b := by
  intro p q hp hpq hq
  have key : ∀ r, a ≤ r → r < b → (mvU e a (i - 1) r).f = if r < i - 1 then (e (r + 1)).f else if r = i - 1 then (e a).f else (e r).f := fun r hr _ => by
    unfold mvU
    by_cases c : r < i - 1
    · rw [if_pos ⟨hr, c⟩, if_pos c]
    · rw [if_neg (by omega), if_neg c]
      split <;> rfl
  rw [key p hp (by omega), key q (by omega) hq]
  by_cases c1 : p < i - 1
  · rw [if_pos c1]
    by_cases c2 : q < i - 1
    · rw [if_pos c2]; exact hS _ _ (by omega) (by omega) (by omega)
    · rw [if_neg c2]
      by_cases c3 : q = i - 1
      · rw [if_pos c3]; exact h1 _ (by omega) (by omega)
      · rw [if_neg c3]; exact hS _ _ (by omega) (by omega) hq
  · rw [if_neg c1, if_neg (show ¬ q < i - 1 by omega)]
    by_cases c3 : p = i - 1
    · rw [if_pos c3]
      by_cases c4 : q = i - 1
      · rw [if_pos c4]; exact Nat.le_refl _
      · rw [if_neg c4]; exact h2 _ (by omega) hq
    · rw [if_neg c3, if_neg (show ¬ q = i - 1 by omega)]
      exact hS _ _ (by omega) hpq hq

/-- The list at place m is moved down to place k. -/
def mvD (e : Nat → El) (m k : Nat) : Nat → El := fun p => if p = k then e m else if k < p ∧ p ≤ m then e (p - 1) else e p
theorem mvD_zero (e : Nat → El) (m : Nat) : mvD e m m = e := by
  funext p
  unfold mvD
  by_cases h : p = m
  · rw [if_pos h, h]
  · rw [if_neg h, if_neg (by omega)]
theorem mvD_succ (e : Nat → El) (m k : Nat) (h : k + 1 ≤ m) : swp (mvD e m (k + 1)) (k + 1) k = mvD e m k := by
  funext p
  unfold swp upd
  by_cases h1 : p = k
  · subst h1
    rw [if_pos rfl]
    unfold mvD
    rw [if_pos rfl, if_pos rfl]
  · rw [if_neg h1]
    by_cases h2 : p = k + 1
    · subst h2
      rw [if_pos rfl]
      unfold mvD
      rw [if_neg (by omega), if_neg (by omega), if_neg (by omega), if_pos (by omega)]
      rfl
    · rw [if_neg h2]
      unfold mvD
      rw [if_neg h2, if_neg h1]
      by_cases h3 : k + 1 < p ∧ p ≤ m
      · rw [if_pos h3, if_pos (by omega)]
      · rw [if_neg h3, if_neg (show ¬ (k < p ∧ p ≤ m) by omega)]
theorem mvD_mem (e : Nat → El) {a k m : Nat} (h : a ≤ k) (hk : k ≤ m) : Mem e (mvD e m k) a (m + 1) :=
  ⟨fun i h1 h2 => by
    unfold mvD
    by_cases h3 : i = k
    · rw [if_pos h3]; exact ⟨m, by omega, by omega, rfl⟩
    · rw [if_neg h3]
      by_cases h4 : k < i ∧ i ≤ m
      · rw [if_pos h4]; exact ⟨i - 1, by omega, by omega, rfl⟩
      · rw [if_neg h4]; exact ⟨i, h1, h2, rfl⟩, fun i hi => by
    unfold mvD
    rw [if_neg (by omega), if_neg (by omega)]⟩
theorem mvD_srt {e : Nat → El} {a i m : Nat} (hS : Srt e a m) (hai : a ≤ i) (him : i ≤ m) (h1 : ∀ p, a ≤ p → p < i → (e p).f ≤ (e m).f) (h2 : ∀ p, i ≤ p → p < m → (e m).f ≤ (e p).f) : Srt (mvD e m i) a (m + 1) := by
  intro p q hp hpq hq
  unfold mvD
  by_cases c1 : p = i
  · rw [if_pos c1]
    by_cases c2 : q = i
    · rw [if_pos c2]; exact Nat.le_refl _
    · rw [if_neg c2, if_pos (by omega)]; exact h2 _ (by omega) (by omega)
  · rw [if_neg c1]
    by_cases c2 : i < p ∧ p ≤ m
    · rw [if_pos c2, if_neg (show ¬ q = i by omega), if_pos (show i < q ∧ q ≤ m by omega)]
      exact hS _ _ (by omega) (by omega) (by omega)
    · rw [if_neg c2]
      by_cases c3 : q = i
      · rw [if_pos c3]; exact h1 _ hp (by omega)
      · rw [if_neg c3]
        by_cases c4 : i < q ∧ q ≤ m
        · rw [if_pos c4]; exact hS _ _ hp (by omega) (by omega)
        · rw [if_neg c4]; exact hS _ _ hp hpq (by omega)

/-- What the halving search of the middle has found. -/
structure Cut (e : Nat → El) (lo hi nn s r : Nat) : Prop where
  ls : lo ≤ s
  sr : s ≤ r
  rh : r ≤ hi
  low : ∀ c, lo ≤ c → c < s → (e c).f ≤ (e (nn - 1 - c)).f
  high : ∀ c, r ≤ c → c < hi → (e (nn - 1 - c)).f < (e c).f
/-- The search's ground: [lo, hi) lies in the left run, its mirror in the right run. -/
structure Gnd (e : Nat → El) (a m b lo hi nn : Nat) : Prop where
  sl : Srt e a m
  sr : Srt e m b
  al : a ≤ lo
  hm : hi ≤ m
  mir : ∀ c, lo ≤ c → c < hi → m ≤ nn - 1 - c ∧ nn - 1 - c < b ∧ c + 1 ≤ nn
theorem Cut.up {e : Nat → El} {a m b lo hi nn s r c : Nat} (h : Cut e lo hi nn s r) (G : Gnd e a m b lo hi nn) (h1 : s ≤ c) (h2 : c < r) (hc : (e c).f ≤ (e (nn - 1 - c)).f) : Cut e lo hi nn (c + 1) r := by
  have := h.ls
  have := h.rh
  have := G.al
  have := G.hm
  refine ⟨by omega, by omega, h.rh, fun d d1 d2 => ?_, h.high⟩
  obtain ⟨x1, x2, x3⟩ := G.mir c (by omega) (by omega)
  obtain ⟨y1, y2, y3⟩ := G.mir d d1 (by omega)
  exact Nat.le_trans (G.sl d c (by omega) (by omega) (by omega)) (Nat.le_trans hc (G.sr _ _ x1 (by omega) y2))
theorem Cut.dn {e : Nat → El} {a m b lo hi nn s r c : Nat} (h : Cut e lo hi nn s r) (G : Gnd e a m b lo hi nn) (h1 : s ≤ c) (h2 : c < r) (hc : (e (nn - 1 - c)).f < (e c).f) : Cut e lo hi nn s c := by
  have := h.ls
  have := h.rh
  have := G.al
  have := G.hm
  refine ⟨h.ls, h1, by omega, h.low, fun d d1 d2 => ?_⟩
  obtain ⟨x1, x2, x3⟩ := G.mir c (by omega) (by omega)
  obtain ⟨y1, y2, y3⟩ := G.mir d (by omega) d2
  exact Nat.lt_of_le_of_lt (G.sr _ _ y1 (by omega) x2) (Nat.lt_of_lt_of_le hc (G.sl c d (by omega) d1 (by omega)))

theorem rot_none1 (e : Nat → El) (m h : Nat) : rot e m m h = e := by
  funext i
  unfold rot
  by_cases h1 : m ≤ i ∧ i < m + (h - m)
  · rw [if_pos h1]; congr 1; omega
  · rw [if_neg h1]
    by_cases h2 : m + (h - m) ≤ i ∧ i < h
    · omega
    · rw [if_neg h2]
theorem rot_none2 (e : Nat → El) (l m : Nat) : rot e l m m = e := by
  funext i
  unfold rot
  rw [if_neg (by omega)]
  by_cases h2 : l + (m - m) ≤ i ∧ i < m
  · rw [if_pos h2]; congr 1; omega
  · rw [if_neg h2]
theorem rot_mem (e : Nat → El) {l m h a b : Nat} (h1 : a ≤ l) (h2 : l ≤ m) (h3 : m ≤ h) (h4 : h ≤ b) : Mem e (rot e l m h) a b :=
  ⟨fun i i1 i2 => by
    unfold rot
    by_cases c1 : l ≤ i ∧ i < l + (h - m)
    · rw [if_pos c1]; exact ⟨_, by omega, by omega, rfl⟩
    · rw [if_neg c1]
      by_cases c2 : l + (h - m) ≤ i ∧ i < h
      · rw [if_pos c2]; exact ⟨_, by omega, by omega, rfl⟩
      · rw [if_neg c2]; exact ⟨i, i1, i2, rfl⟩, fun i hi => by
    unfold rot
    rw [if_neg (by omega), if_neg (by omega)]⟩
/-- Behind the turn: both halves hold two sorted runs, and nothing of the left is above what is on the right. -/
theorem turned {e : Nat → El} {a m b s t mid : Nat} (hl : Srt e a m) (hr : Srt e m b) (h1 : a ≤ s) (h2 : s ≤ m) (h3 : m ≤ t) (h4 : t ≤ b) (hmid : mid = s + (t - m))
    (c1 : a < s → t < b → (e (s - 1)).f ≤ (e t).f) (c2 : s < m → m < t → (e (t - 1)).f ≤ (e s).f) :
    Srt (rot e s m t) a s ∧ Srt (rot e s m t) s mid ∧ Srt (rot e s m t) mid t ∧ Srt (rot e s m t) t b ∧ ∀ p q, a ≤ p → p < mid → mid ≤ q → q < b → ((rot e s m t) p).f ≤ ((rot e s m t) q).f := by
  subst hmid
  have k1 : ∀ p, p < s → rot e s m t p = e p := fun p hp => by unfold rot; rw [if_neg (by omega), if_neg (by omega)]
  have k2 : ∀ p, s ≤ p → p < s + (t - m) → rot e s m t p = e (p + (m - s)) := fun p h5 h6 => by unfold rot; rw [if_pos ⟨h5, h6⟩]
  have k3 : ∀ p, s + (t - m) ≤ p → p < t → rot e s m t p = e (p - (t - m)) := fun p h5 h6 => by unfold rot; rw [if_neg (by omega), if_pos ⟨h5, h6⟩]
  have k4 : ∀ p, t ≤ p → rot e s m t p = e p := fun p h5 => by unfold rot; rw [if_neg (by omega), if_neg (by omega)]
  refine ⟨fun p q p1 p2 p3 => ?_, fun p q p1 p2 p3 => ?_, fun p q p1 p2 p3 => ?_, fun p q p1 p2 p3 => ?_, fun p q p1 p2 q1 q2 => ?_⟩
  · rw [k1 p (by omega), k1 q p3]; exact hl _ _ p1 p2 (by omega)
  · rw [k2 p p1 (by omega), k2 q (by omega) p3]; exact hr _ _ (by omega) (by omega) (by omega)
  · rw [k3 p p1 (by omega), k3 q (by omega) p3]; exact hl _ _ (by omega) (by omega) (by omega)
  · rw [k4 p p1, k4 q (by omega)]; exact hr _ _ (by omega) p2 p3
  · by_cases d1 : p < s
    · rw [k1 p d1]
      by_cases d2 : q < t
      · rw [k3 q q1 d2]; exact hl _ _ p1 (by omega) (by omega)
      · rw [k4 q (by omega)]
        exact Nat.le_trans (hl p (s - 1) p1 (by omega) (by omega)) (Nat.le_trans (c1 (by omega) (by omega)) (hr t q (by omega) (by omega) q2))
    · rw [k2 p (by omega) p2]
      by_cases d2 : q < t
      · rw [k3 q q1 d2]
        exact Nat.le_trans (hr (p + (m - s)) (t - 1) (by omega) (by omega) (by omega)) (Nat.le_trans (c2 (by omega) (by omega)) (hl s _ h1 (by omega) (by omega)))
      · rw [k4 q (by omega)]; exact hr _ _ (by omega) (by omega) q2
/-- Two halves sorted, one after the other. -/
theorem joined {e1 e2 e3 : Nat → El} {a mid b : Nat} (hm : a ≤ mid) (hb : mid ≤ b) (hx : ∀ p q, a ≤ p → p < mid → mid ≤ q → q < b → (e1 p).f ≤ (e1 q).f) (m1 : Mem e1 e2 a mid) (s1 : Srt e2 a mid) (m2 : Mem e2 e3 mid b) (s2 : Srt e3 mid b) : Srt e3 a b ∧ Mem e1 e3 a b := by
  refine ⟨fun p q p1 p2 p3 => ?_, (m1.mono (Nat.le_refl _) hb).trans (m2.mono hm (Nat.le_refl _))⟩
  by_cases c1 : p < mid
  · have ep : e3 p = e2 p := m2.2 p (by omega)
    by_cases c2 : q < mid
    · have eq : e3 q = e2 q := m2.2 q (by omega)
      rw [ep, eq]; exact s1 _ _ p1 p2 c2
    · obtain ⟨q', q1, q2, q3⟩ := m2.1 q (by omega) p3
      obtain ⟨p', p4, p5, p6⟩ := m1.1 p p1 c1
      rw [ep, q3, p6, m1.2 q' (by omega)]
      exact hx _ _ p4 p5 q1 q2
  · exact s2 _ _ (by omega) p2 p3
end Propose
end Go.Proofs.YbulkcrfgGreatFmt
