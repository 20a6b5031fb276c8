/-
  LawS4660AOrder: the plain part.
-/
import Derived.Test.YbulkcrmgState
namespace Go.Proofs.Ybulkcrmg
open Go.RowKit
namespace Order
open Kit

theorem range_set {α : Type} (n k : Nat) (g : Nat → α) (v : α) : ((List.range n).map g).set k v = (List.range n).map (fun j => if j = k then v else g j) := by
  apply List.ext_getElem?
  intro j
  rw [List.getElem?_set, List.getElem?_map, List.getElem?_map]
  by_cases e : k = j
  · subst e
    by_cases h : k < n
    · simp [h]
    · simp [h]
  · by_cases h : j < n
    · simp [h, e, show ¬ j = k by omega]
    · simp [h, e]
theorem range_get {α : Type} (n k : Nat) (g : Nat → α) (h : k < n) : ((List.range n).map g)[k]? = some (g k) := by simp [h]

/-- A number, or -1. -/
def ofO : Option Nat → Int
  | none => -1
  | some v => v
/-- How many of the first J there are. -/
def cnt (f : Nat → Option Nat) : Nat → Nat
  | 0 => 0
  | J + 1 => if (f J).isSome then cnt f J + 1 else cnt f J
theorem cnt_le (f : Nat → Option Nat) (J : Nat) : cnt f J ≤ J := by
  induction J with
  | zero => exact Nat.le_refl _
  | succ J ih => unfold cnt; split <;> omega
def updO (f : Nat → Option Nat) (r v : Nat) : Nat → Option Nat := fun j => if j = r then some v else f j
theorem cnt_congr {f g : Nat → Option Nat} {J : Nat} (h : ∀ j, j < J → f j = g j) : cnt f J = cnt g J := by
  induction J with
  | zero => rfl
  | succ J ih => unfold cnt; rw [h J (by omega), ih (fun j hj => h j (by omega))]
theorem cnt_upd (f : Nat → Option Nat) (r v J : Nat) (hr : r < J) : cnt (updO f r v) J = if (f r).isSome then cnt f J else cnt f J + 1 := by
  induction J with
  | zero => omega
  | succ J ih =>
    by_cases e : r = J
    · subst e
      have h1 : cnt (updO f r v) r = cnt f r := cnt_congr (fun j hj => by unfold updO; rw [if_neg (by omega)])
      have h2 : updO f r v r = some v := by unfold updO; rw [if_pos rfl]
      unfold cnt
      rw [h1, h2]
      cases (f r).isSome <;> simp
    · have h2 : updO f r v J = f J := by unfold updO; rw [if_neg (by omega)]
      unfold cnt
      rw [h2, ih (by omega)]
      cases (f r).isSome <;> cases (f J).isSome <;> simp
theorem idx_upd (rs : Nat → Nat) (k : Nat) : idx rs (k + 1) 114 = updO (idx rs k 114) (rs k) k := by
  funext j
  rw [idx]
  unfold upd updO
  simp
theorem szI_cnt (rs : Nat → Nat) (n : Nat) (h : ∀ i, rs i < 10) : szI rs n = cnt (idx rs n 114) 10 := by
  induction n with
  | zero => rfl
  | succ n ih =>
    rw [idx_upd, cnt_upd _ _ _ _ (h n), ← ih]
    rfl

/-- The individuals by the place of their first member; how many. -/
def nI (mI : Nat → Nat) : Nat → (Nat → Option Nat) × Nat
  | 0 => (fun _ => none, 0)
  | k + 1 => if ((nI mI k).1 (mI k)).isSome then nI mI k else (updO (nI mI k).1 (mI k) (nI mI k).2, (nI mI k).2 + 1)
theorem nI_lt (mI : Nat → Nat) (k a v : Nat) (h : (nI mI k).1 a = some v) : v < (nI mI k).2 := by
  induction k with
  | zero => cases h
  | succ k ih =>
    unfold nI at h ⊢
    split
    · rename_i hs; rw [if_pos hs] at h; exact ih h
    · rename_i hs
      rw [if_neg hs] at h
      unfold updO at h
      simp only at h ⊢
      split at h
      · cases h; omega
      · have := ih h; omega
theorem nI_cnt (mI : Nat → Nat) (k : Nat) (h : ∀ i, mI i < 8) : (nI mI k).2 = cnt (nI mI k).1 8 := by
  induction k with
  | zero => rfl
  | succ k ih =>
    unfold nI
    split
    · exact ih
    · rename_i hs
      show (nI mI k).2 + 1 = cnt (updO (nI mI k).1 (mI k) (nI mI k).2) 8
      rw [cnt_upd _ _ _ _ (h k), if_neg hs, ih]
theorem nI_mono (mI : Nat → Nat) (k a : Nat) (h : ((nI mI k).1 a).isSome = true) : ((nI mI (k + 1)).1 a).isSome = true := by
  rw [nI]
  split
  · exact h
  · show (updO (nI mI k).1 (mI k) (nI mI k).2 a).isSome = true
    unfold updO
    split
    · rfl
    · exact h
theorem nI_self (mI : Nat → Nat) (k : Nat) : ((nI mI (k + 1)).1 (mI k)).isSome = true := by
  rw [nI]
  split
  · assumption
  · show (updO (nI mI k).1 (mI k) (nI mI k).2 (mI k)).isSome = true
    unfold updO
    rw [if_pos rfl]; rfl
theorem nI_has (mI : Nat → Nat) (n k : Nat) (h : k < n) : ((nI mI n).1 (mI k)).isSome = true := by
  induction n with
  | zero => omega
  | succ n ih =>
    by_cases e : k = n
    · subst e; exact nI_self mI k
    · exact nI_mono mI n _ (ih (by omega))

/-- The map of individuals: as it grows. -/
def F6 (ind : Nat → Option Nat) (J : Nat) : Nat → Nat → Option Nat := fun p a => if p = 105 ∧ a < J then ind a else none
def F7 (ind : Nat → Option Nat) (n j : Nat) : Nat → Nat → Option Nat := fun p a => if p = 122 ∧ a < j then some (n + a) else F6 ind 8 p a
theorem F6_zero (ind : Nat → Option Nat) : F6 ind 0 = fun _ _ => none := by
  funext p a; unfold F6; rw [if_neg (by omega)]
theorem F6_some {ind : Nat → Option Nat} {J v : Nat} (h : ind J = some v) : upd (F6 ind J) 105 J v = F6 ind (J + 1) := by
  funext p a
  unfold upd F6
  by_cases e : p = 105 ∧ a = J
  · obtain ⟨rfl, rfl⟩ := e
    rw [if_pos ⟨rfl, rfl⟩, if_pos ⟨rfl, by omega⟩, h]
  · rw [if_neg e]
    by_cases e2 : p = 105 ∧ a < J
    · rw [if_pos e2, if_pos (by omega)]
    · rw [if_neg e2, if_neg (by omega)]
theorem F6_none {ind : Nat → Option Nat} {J : Nat} (h : ind J = none) : F6 ind J = F6 ind (J + 1) := by
  funext p a
  unfold F6
  by_cases e : p = 105 ∧ a = J
  · obtain ⟨rfl, rfl⟩ := e
    rw [if_neg (by omega), if_pos ⟨rfl, by omega⟩, h]
  · by_cases e2 : p = 105 ∧ a < J
    · rw [if_pos e2, if_pos (by omega)]
    · rw [if_neg e2, if_neg (by omega)]
theorem F6_new (ind : Nat → Option Nat) (J : Nat) : F6 ind J 105 J = none := by unfold F6; rw [if_neg (by omega)]
theorem F7_zero (ind : Nat → Option Nat) (n : Nat) : F7 ind n 0 = F6 ind 8 := by
  funext p a; unfold F7; rw [if_neg (by omega)]
theorem F7_new (ind : Nat → Option Nat) (n j : Nat) : F7 ind n j 122 j = none := by
  unfold F7 F6; rw [if_neg (by omega), if_neg (by omega)]
theorem F7_succ (ind : Nat → Option Nat) (n j : Nat) : upd (F7 ind n j) 122 j (n + j) = F7 ind n (j + 1) := by
  funext p a
  unfold upd F7
  by_cases e : p = 122 ∧ a = j
  · obtain ⟨rfl, rfl⟩ := e
    rw [if_pos ⟨rfl, rfl⟩, if_pos ⟨rfl, by omega⟩]
  · rw [if_neg e]
    by_cases e2 : p = 122 ∧ a < j
    · rw [if_pos e2, if_pos (by omega)]
    · rw [if_neg e2, if_neg (by omega)]
theorem F7_i (ind : Nat → Option Nat) (n j a : Nat) (h : a < 8) : F7 ind n j 105 a = ind a := by
  unfold F7 F6; rw [if_neg (by omega), if_pos ⟨rfl, h⟩]
theorem F7_z (ind : Nat → Option Nat) (n j a : Nat) (h : a < j) : F7 ind n j 122 a = some (n + a) := by
  unfold F7; rw [if_pos ⟨rfl, h⟩]

-- the tables' rows
theorem snoc_at (zs : Nat → List Nat) (j x : Nat) : snoc zs j x j = zs j ++ [x] := by unfold snoc; rw [if_pos rfl]
theorem snoc_off (zs : Nat → List Nat) (j x i : Nat) (h : i ≠ j) : snoc zs j x i = zs i := by unfold snoc; rw [if_neg h]
section
variable {nf : Nat → Option Nat} {ind : Nat → Nat} {T nR kd : Nat} {mI mR sA sB sK : Nat → Nat} {zs : Nat → List Nat}
theorem zsM_none {k : Nat} (h : nf (mR k) = none) : zsM nf ind T mI mR (k + 1) = zsM nf ind T mI mR k := by
  rw [zsM, h]; rfl
theorem zsM_some {k r : Nat} (h : nf (mR k) = some r) : zsM nf ind T mI mR (k + 1) = snoc (snoc (zsM nf ind T mI mR k) (ind (mI k)) r) (T + r) (ind (mI k)) := by
  rw [zsM, h]; rfl
theorem zsM_held {k i r : Nat} (hi : i < T) (h : nf (mR k) = some r) (e : ind (mI k) = i) : zsM nf ind T mI mR (k + 1) i = zsM nf ind T mI mR k i ++ [r] := by
  rw [zsM_some h, snoc_off _ _ _ _ (by omega), e, snoc_at]
theorem zsM_held_off {k i : Nat} (hi : i < T) (h : nf (mR k) = none ∨ ind (mI k) ≠ i) : zsM nf ind T mI mR (k + 1) i = zsM nf ind T mI mR k i := by
  cases hr : nf (mR k) with
  | none => rw [zsM_none hr]
  | some r =>
    rw [zsM_some hr, snoc_off _ _ _ _ (by omega), snoc_off]
    rcases h with h | h
    · rw [hr] at h; cases h
    · exact Ne.symm h
theorem zsM_hol {k a : Nat} (hk : ind (mI k) < T) (h : nf (mR k) = some a) : zsM nf ind T mI mR (k + 1) (T + a) = zsM nf ind T mI mR k (T + a) ++ [ind (mI k)] := by
  rw [zsM_some h, snoc_at, snoc_off _ _ _ _ (by omega)]
theorem zsM_hol_off {k a : Nat} (hk : ind (mI k) < T) (h : nf (mR k) ≠ some a) : zsM nf ind T mI mR (k + 1) (T + a) = zsM nf ind T mI mR k (T + a) := by
  cases hr : nf (mR k) with
  | none => rw [zsM_none hr]
  | some r =>
    rw [zsM_some hr, snoc_off _ _ _ _ (fun e => h (by rw [hr]; congr 1; omega)), snoc_off _ _ _ _ (by omega)]
theorem zsM_far {i : Nat} (n : Nat) (hnf : ∀ r v, nf r = some v → v < nR) (hind : ∀ k, k < n → ind (mI k) < T) (hi : T + nR ≤ i) : zsM nf ind T mI mR n i = [] := by
  induction n with
  | zero => rfl
  | succ k ih =>
    have ih := ih (fun k hk => hind k (by omega))
    cases hr : nf (mR k) with
    | none => rw [zsM_none hr, ih]
    | some r =>
      have := hnf _ _ hr
      have := hind k (by omega)
      rw [zsM_some hr, snoc_off _ _ _ _ (by omega), snoc_off _ _ _ _ (by omega), ih]
theorem zsS_low {i : Nat} (n : Nat) (hi : i < T + nR) : zsS nf T nR kd sA sB sK zs n i = zs i := by
  induction n with
  | zero => rfl
  | succ k ih =>
    rw [zsS]
    cases h1 : decide (sK k = kd) <;> cases h2 : nf (sA k) <;> cases h3 : nf (sB k) <;> try exact ih
    show snoc (snoc (zsS nf T nR kd sA sB sK zs k) (T + nR + _) _) (T + nR + nR + _) _ i = _
    rw [snoc_off _ _ _ _ (by omega), snoc_off _ _ _ _ (by omega), ih]
theorem zsS_skip {k : Nat} (h : sK k ≠ kd ∨ nf (sA k) = none ∨ nf (sB k) = none) : zsS nf T nR kd sA sB sK zs (k + 1) = zsS nf T nR kd sA sB sK zs k := by
  rw [zsS]
  rcases h with h | h | h
  · rw [decide_eq_false h]; cases nf (sA k) <;> cases nf (sB k) <;> rfl
  · rw [h]; cases decide (sK k = kd) <;> cases nf (sB k) <;> rfl
  · rw [h]; cases decide (sK k = kd) <;> cases nf (sA k) <;> rfl
theorem zsS_yes {k a b : Nat} (h : sK k = kd) (ha : nf (sA k) = some a) (hb : nf (sB k) = some b) : zsS nf T nR kd sA sB sK zs (k + 1) = snoc (snoc (zsS nf T nR kd sA sB sK zs k) (T + nR + a) b) (T + nR + nR + b) a := by
  rw [zsS, ha, hb, decide_eq_true h]; rfl
theorem zsS_below {k a b c : Nat} (h : sK k = kd) (ha : nf (sA k) = some a) (hb : nf (sB k) = some b) (hc : c < nR) :
    zsS nf T nR kd sA sB sK zs (k + 1) (T + nR + c) = if a = c then zsS nf T nR kd sA sB sK zs k (T + nR + c) ++ [b] else zsS nf T nR kd sA sB sK zs k (T + nR + c) := by
  rw [zsS_yes h ha hb, snoc_off _ _ _ _ (by omega)]
  by_cases e : a = c
  · subst e; rw [if_pos rfl, snoc_at]
  · rw [if_neg e, snoc_off _ _ _ _ (by omega)]
theorem zsS_above {k a b c : Nat} (h : sK k = kd) (ha : nf (sA k) = some a) (hb : nf (sB k) = some b) (han : a < nR) :
    zsS nf T nR kd sA sB sK zs (k + 1) (T + nR + nR + c) = if b = c then zsS nf T nR kd sA sB sK zs k (T + nR + nR + c) ++ [a] else zsS nf T nR kd sA sB sK zs k (T + nR + nR + c) := by
  rw [zsS_yes h ha hb]
  by_cases e : b = c
  · subst e; rw [if_pos rfl, snoc_at, snoc_off _ _ _ _ (by omega)]
  · rw [if_neg e, snoc_off _ _ _ _ (by omega), snoc_off _ _ _ _ (by omega)]
theorem snoc_pre (zs : Nat → List Nat) (j x i : Nat) : zs i <+: snoc zs j x i := by
  unfold snoc
  split
  · rename_i e; subst e; exact List.prefix_append _ _
  · exact List.prefix_refl _
theorem zsM_pre {k n : Nat} (i : Nat) (h : k ≤ n) : zsM nf ind T mI mR k i <+: zsM nf ind T mI mR n i := by
  induction n with
  | zero => obtain rfl : k = 0 := by omega
            exact List.prefix_refl _
  | succ n ih =>
    by_cases e : k = n + 1
    · subst e; exact List.prefix_refl _
    · refine (ih (by omega)).trans ?_
      cases hr : nf (mR n) with
      | none => rw [zsM_none hr]; exact List.prefix_refl _
      | some r => rw [zsM_some hr]; exact (snoc_pre _ _ _ _).trans (snoc_pre _ _ _ _)
theorem zsS_pre {k n : Nat} (i : Nat) (h : k ≤ n) : zsS nf T nR kd sA sB sK zs k i <+: zsS nf T nR kd sA sB sK zs n i := by
  induction n with
  | zero => obtain rfl : k = 0 := by omega
            exact List.prefix_refl _
  | succ n ih =>
    by_cases e : k = n + 1
    · subst e; exact List.prefix_refl _
    · refine (ih (by omega)).trans ?_
      by_cases hk : sK n = kd
      · cases ha : nf (sA n) with
        | none => rw [zsS_skip (.inr (.inl ha))]; exact List.prefix_refl _
        | some a =>
          cases hb : nf (sB n) with
          | none => rw [zsS_skip (.inr (.inr hb))]; exact List.prefix_refl _
          | some b => rw [zsS_yes hk ha hb]; exact (snoc_pre _ _ _ _).trans (snoc_pre _ _ _ _)
      · rw [zsS_skip (.inl hk)]; exact List.prefix_refl _
end
/-- One more of a longer list's start. -/
theorem pre_next {l m : List Nat} {x : Nat} (h : l ++ [x] <+: m) : l.length < m.length ∧ m[l.length]? = some x := by
  obtain ⟨t, rfl⟩ := h
  simp
theorem sv_bit (zs : Nat → List Nat) (T i : Nat) : (sv zs T).testBit i = (decide (i < T) && decide (1 < (zs i).length)) := by
  induction T with
  | zero => simp [sv]
  | succ T ih =>
    unfold sv
    by_cases e : i = T
    · subst e
      by_cases h : 1 < (zs i).length
      · rw [if_pos h, Nat.testBit_or, ih, Nat.testBit_two_pow_self]; simp [h]
      · rw [if_neg h, ih]; simp [h]
    · have h2 : (decide (i < T + 1)) = decide (i < T) := by rw [decide_eq_decide]; omega
      rw [h2]
      by_cases h : 1 < (zs T).length
      · rw [if_pos h, Nat.testBit_or, ih, Nat.testBit_two_pow_of_ne (Ne.symm e), Bool.or_false]
      · rw [if_neg h, ih]
theorem sv_congr {zs zs' : Nat → List Nat} {T : Nat} (h : ∀ i, i < T → zs i = zs' i) : sv zs T = sv zs' T ∧ sq zs T = sq zs' T := by
  induction T with
  | zero => exact ⟨rfl, rfl⟩
  | succ T ih =>
    obtain ⟨h1, h2⟩ := ih (fun i hi => h i (by omega))
    unfold sv sq
    rw [h T (by omega), h1, h2]
    exact ⟨rfl, rfl⟩
end Order
end Go.Proofs.Ybulkcrmg
