/-
  LawS4660CFollow: the walk.
-/
import Derived.Test.YbulkcrmgDoorFollow
import Derived.Test.YbulkcrmgDoorMade
namespace Go.Proofs.YbulkcrmgDoor
open Go.RowKit
namespace Follow
open Kit

theorem andn_zero (h : Nat) : andn 0 h = 0 := by simp [andn]

/-- What follow's words make of a target. -/
theorem after_upto (o v f : Nat → Nat) (g : Nat × Nat → Nat × Nat) (n : Nat) (q : Bool) (hg : ∀ j, g (j, f j) = (j, v j)) (hz : ∀ j, f j = 0 → v j = 0) :
    ∀ k, k ≤ n → after ((List.range n).map o, (List.range n).map (fun _ => 9223372036854775808), q) ((nz f k).map g) =
      ((List.range n).map (fun j => if j < k then o j ||| v j else o j), (List.range n).map (fun j => if j < k then 9223372036854775808 ||| andn (v j) (o j) else 9223372036854775808), q || added o v k) := by
  intro k
  induction k with
  | zero => intro _; simp [nz, after, added]
  | succ k ih =>
    intro hk
    have ihk := ih (by omega)
    rw [nz_succ]
    by_cases h0 : f k = 0
    · rw [if_pos h0, ihk, added_succ, hz k h0, andn_zero]
      refine Prod.ext ?_ (Prod.ext ?_ ?_)
      · apply List.map_congr_left
        intro j _
        by_cases e : j = k
        · subst e; simp [hz j h0]
        · simp only [show (j < k + 1) = (j < k) from propext ⟨fun h => by omega, fun h => by omega⟩]
      · apply List.map_congr_left
        intro j _
        by_cases e : j = k
        · subst e; simp [hz j h0, andn_zero]
        · simp only [show (j < k + 1) = (j < k) from propext ⟨fun h => by omega, fun h => by omega⟩]
      · simp
    · rw [if_neg h0, List.map_append, List.map_cons, List.map_nil, hg, after_snoc, ihk]
      have hkn : k < n := by omega
      unfold stepS
      refine Prod.ext ?_ (Prod.ext ?_ ?_)
      · apply List.ext_getElem?
        intro j
        simp only [List.getElem?_set, List.getElem?_map, List.length_map, List.length_range]
        by_cases e : k = j
        · subst e; simp [hkn]
        · have e2 : (j < k + 1) ↔ (j < k) := by omega
          rw [if_neg e]
          by_cases hj : j < n
          · simp [hj, e2]
          · simp [hj]
      · apply List.ext_getElem?
        intro j
        simp only [List.getElem?_set, List.getElem?_map, List.length_map, List.length_range]
        by_cases e : k = j
        · subst e; simp [hkn]
        · have e2 : (j < k + 1) ↔ (j < k) := by omega
          rw [if_neg e]
          by_cases hj : j < n
          · simp [hj, e2]
          · simp [hj]
      · rw [added_succ]
        simp [hkn, Bool.or_assoc]

theorem after_all (o v f : Nat → Nat) (g : Nat × Nat → Nat × Nat) (n : Nat) (q : Bool) (hg : ∀ j, g (j, f j) = (j, v j)) (hz : ∀ j, f j = 0 → v j = 0) :
    after ((List.range n).map o, (List.range n).map (fun _ => 9223372036854775808), q) ((nz f n).map g) =
      ((List.range n).map (fun j => o j ||| v j), (List.range n).map (fun j => 9223372036854775808 ||| andn (v j) (o j)), q || added o v n) := by
  rw [after_upto o v f g n q hg hz n (Nat.le_refl _)]
  refine Prod.ext ?_ (Prod.ext ?_ rfl)
  · apply List.map_congr_left
    intro j hj
    rw [if_pos (List.mem_range.1 hj)]
  · apply List.map_congr_left
    intro j hj
    rw [if_pos (List.mem_range.1 hj)]

theorem Tg.below {X : Nat} {W W' : World} {r bM bF n : Nat} {S : List Nat × List Nat × Bool} (h : Tg W r bM bF n S) (hb : Below X W W') (h1 : r < X) (h2 : bM < X) (h3 : bF < X) : Tg W' r bM bF n S := by
  obtain ⟨⟨rc, a1, a2⟩, hM, hF, r1, r2, r3, r4⟩ := h
  exact ⟨⟨rc, a1.below hb h1, a2⟩, hM.below hb h2, hF.below hb h3, r1, r2, r3, r4⟩
theorem m0_ok (len : Nat) (f : Nat → Nat) (hf : ∀ i, f i < 18446744073709551616) (j : Nat) : m0 len f j ≠ 0 ∧ m0 len f j < 18446744073709551616 := by
  unfold m0
  refine ⟨?_, or_lt (by split; exact hf _; omega) (by omega)⟩
  have := @Nat.right_le_or (if j < len then f j else 0) 1
  omega
theorem Tg.new {W : World} {r bM bF n : Nat} {q : Bool} {len : Nat} {f : Nat → Nat} (hf : ∀ i, f i < 18446744073709551616) (h1 : IsRole W r bM bF n q) (h2 : Row W bM 36 (((List.range n).map (m0 len f)).map u)) (h3 : Row W bF 36 (((List.range n).map (fun _ => 9223372036854775808)).map u)) :
    Tg W r bM bF n ((List.range n).map (m0 len f), (List.range n).map (fun _ => 9223372036854775808), q) := by
  refine ⟨h1, h2, h3, by simp, by simp, fun j x hj => ?_, fun j x hj => ?_⟩
  · simp only [List.getElem?_map] at hj
    obtain ⟨i, _, rfl⟩ := Option.map_eq_some_iff.1 hj
    exact m0_ok len f hf i
  · simp only [List.getElem?_map] at hj
    obtain ⟨i, _, rfl⟩ := Option.map_eq_some_iff.1 hj
    omega

end Follow
end Go.Proofs.YbulkcrmgDoor
