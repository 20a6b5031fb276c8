/-
  newOrder: the state behind its first region.
-/
import Derived.Test.YbulkcrmgState
namespace Go.Proofs.Ybulkcrmg
open Go.RowKit
namespace Order
open Kit

theorem Row.neT {w : World} {g h : Nat} {t u : TypeId} {cs ds : List Value} (a : Row w g t cs) (b : Row w h u ds) (ht : t ≠ u) : g ≠ h := by
  intro e
  subst e
  unfold Row at a b
  rw [a] at b
  injection b with b
  injection b with _ b
  exact ht b
theorem MapIs.neR {w : World} {b h : Nat} {f : Nat → Nat → Option Nat} {sz N : Nat} {u : TypeId} {ds : List Value} (a : MapIs w b f sz N) (r : Row w h u ds) : b ≠ h := by
  intro e
  subst e
  obtain ⟨n, D, _, ⟨es, clock, e1, _⟩, _⟩ := a
  unfold Row at r
  rw [e1] at r
  cases r

theorem ad_inj {S0 n₀ : Nat} {B : Blk} (g : Geo S0 n₀ B) (T nR i j : Nat) (h : ad B T nR i = ad B T nR j) : i = j := by
  obtain ⟨t1, t2, t3, t4, t5, t6⟩ := g.t
  unfold ad at h
  by_cases i1 : i < T <;> by_cases j1 : j < T <;> by_cases i2 : i < T + nR <;> by_cases j2 : j < T + nR <;> by_cases i3 : i < T + nR + nR <;> by_cases j3 : j < T + nR + nR <;> simp only [i1, j1, i2, j2, i3, j3, if_true, if_false, Prod.mk.injEq] at h <;> first | omega | (obtain ⟨h1, h2⟩ := h; first | omega | exact absurd h1 (by assumption) | exact absurd h1.symm (by assumption))

theorem made_st {W V : World} {ob bInd nR T : Nat} {rs : Nat → Nat} {bN bB bA bH bL bS : Nat} (q1 : W.heap.size ≤ ob) (q2 : Row V ob 56 [.map (some bN), .map (some bInd), dn bB nR, dn bA nR, dn bH T, dn bL nR, dn bS ((T + 63) / 64), .bool false])
    (q3 : MadeO W V bInd nR T rs (.agg #[.map (some bN), .map (some bInd), dn bB nR, dn bA nR, dn bH T, dn bL nR, dn bS ((T + 63) / 64), .bool false])) (q4 : Below W.heap.size W V) :
    St W V V.heap.size ⟨ob, bN, bB, bA, bH, bL, bS⟩ bInd nR T rs (fun _ => []) (fun _ => .slice none 0 0) 0 false := by
  obtain ⟨bN', bB', bA', bH', bL', bS', e, hM, hN, ⟨h4, h5⟩, ⟨h6, h7⟩, ⟨h8, h9⟩, ⟨h10, h11⟩, ⟨h12, h13⟩, d1, d2, d3, d4, d5, d6⟩ := q3
  simp only [Value.agg.injEq, Array.mk.injEq, List.cons.injEq, Value.map.injEq, Option.some.injEq, Value.slice.injEq, Addr.mk.injEq, and_true, true_and] at e
  obtain ⟨rfl, rfl, rfl, rfl, rfl, rfl⟩ := e
  have g : Geo W.heap.size V.heap.size ⟨ob, bN, bB, bA, bH, bL, bS⟩ := ⟨⟨q1, hN, h4, h6, h8, h10, h12⟩, ⟨q2.lt, hM.lt, h5.lt, h7.lt, h9.lt, h11.lt, h13.lt⟩, ⟨d1, d2, d3, d4, d5, d6⟩,
    ⟨Row.neT q2 h5 (by decide), Row.neT q2 h7 (by decide), Row.neT q2 h9 (by decide), Row.neT q2 h11 (by decide), Row.neT q2 h13 (by decide), (hM.neR q2).symm⟩, ⟨hM.neR h5, hM.neR h7, hM.neR h9, hM.neR h11, hM.neR h13⟩,
    ⟨Row.neT h13 h5 (by decide), Row.neT h13 h7 (by decide), Row.neT h13 h9 (by decide), Row.neT h13 h11 (by decide)⟩⟩
  have hc : ∀ j, j < T + nR + nR + nR → ∃ n cs, Row V (ad ⟨ob, bN, bB, bA, bH, bL, bS⟩ T nR j).1 58 cs ∧ cs = List.replicate n (.slice none 0 0) ∧ (ad ⟨ob, bN, bB, bA, bH, bL, bS⟩ T nR j).2 < n := fun j hj => by
    unfold ad
    split
    · exact ⟨_, _, h9, rfl, by assumption⟩
    · split
      · exact ⟨_, _, h11, rfl, by show j - T < nR; omega⟩
      · split
        · exact ⟨_, _, h5, rfl, by show j - (T + nR) < nR; omega⟩
        · exact ⟨_, _, h7, rfl, by show j - (T + nR + nR) < nR; omega⟩
  refine ⟨g, q2, hM, ⟨fun j hj => ?_, fun j hj => ?_, fun j hj => ?_, fun j hj => ?_, fun i j _ _ _ b hb => ?_, fun i j _ _ h => ad_inj g T nR i j h, Nat.le_refl _⟩, h13, q4⟩
  · obtain ⟨n, cs, hr, rfl, hlt⟩ := hc j hj
    rw [hr.cell]
    simp [hlt]
  · obtain ⟨n, cs, hr, rfl, hlt⟩ := hc j hj
    exact hr.frozen _
  · obtain ⟨n, cs, hr, rfl, hlt⟩ := hc j hj
    exact hr.lt
  · exact World.ownsRow_nil _ _ _ _
  · simp [Value.ownBlock] at hb
end Order
end Go.Proofs.Ybulkcrmg
