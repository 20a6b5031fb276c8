/-
  newOrder: its first region (the order's maps and tables are made in whatever order).
-/
import Derived.Test.YbulkcrmgRegion
import Derived.RegionTactic
namespace Go.Proofs.Ybulkcrmg
open Go.RowKit
namespace Order
open Kit

abbrev ptr (b : Nat) : Value := .pointer (some ⟨b, 0, none⟩)
abbrev dn (b n : Nat) : Value := .slice (some ⟨b, 0, none⟩) n n

/-- A table of n nil slices, made since. -/
def Made (W V : World) (v : Value) (n : Nat) : Prop := ∃ b, v = dn b n ∧ W.heap.size ≤ b ∧ Row V b 58 (List.replicate n (.slice none 0 0))
/-- The order as it is made. -/
def MadeO (W V : World) (bInd nR T : Nat) (rs : Nat → Nat) (v : Value) : Prop :=
  ∃ bN bB bA bH bL bS, v = .agg #[.map (some bN), .map (some bInd), dn bB nR, dn bA nR, dn bH T, dn bL nR, dn bS ((T + 63) / 64), .bool false] ∧ MapIs V bN (idx rs nR) (szI rs nR) nR ∧ W.heap.size ≤ bN ∧
    (W.heap.size ≤ bB ∧ Row V bB 58 (List.replicate nR (.slice none 0 0))) ∧ (W.heap.size ≤ bA ∧ Row V bA 58 (List.replicate nR (.slice none 0 0))) ∧ (W.heap.size ≤ bH ∧ Row V bH 58 (List.replicate T (.slice none 0 0))) ∧ (W.heap.size ≤ bL ∧ Row V bL 58 (List.replicate nR (.slice none 0 0))) ∧
    (W.heap.size ≤ bS ∧ Row V bS 59 (List.replicate ((T + 63) / 64) (.int .u64 0))) ∧ bB ≠ bA ∧ bB ≠ bH ∧ bB ≠ bL ∧ bA ≠ bH ∧ bA ≠ bL ∧ bH ≠ bL

/-- What operation i of the region has left. -/
def Post (W V : World) (bR bInd nR T : Nat) (rs : Nat → Nat) (i : Nat) (v : Value) : Prop :=
  match i with
  | 0 => v = dn bR nR
  | 1 => ∃ b, v = .map (some b) ∧ MapIs V b (idx rs nR) (szI rs nR) nR ∧ W.heap.size ≤ b
  | 2 => v = .map (some bInd)
  | 3 => v = dn bR nR
  | 4 => v = .int .i64 nR
  | 5 => Made W V v nR
  | 6 => v = dn bR nR
  | 7 => v = .int .i64 nR
  | 8 => Made W V v nR
  | 9 => v = .map (some bInd)
  | 10 => v = .int .i64 T
  | 11 => Made W V v T
  | 12 => v = dn bR nR
  | 13 => v = .int .i64 nR
  | 14 => Made W V v nR
  | 15 => v = .map (some bInd)
  | 16 => v = .int .i64 T
  | 17 => ∃ b, v = dn b ((T + 63) / 64) ∧ W.heap.size ≤ b ∧ Row V b 59 (List.replicate ((T + 63) / 64) (.int .u64 0))
  | 18 => MadeO W V bInd nR T rs v
  | 19 => ∃ o cs, v = ptr o ∧ W.heap.size ≤ o ∧ Row V o 56 cs ∧ MadeO W V bInd nR T rs (.agg cs.toArray)
  | 20 => ∃ o cs, v = ptr o ∧ W.heap.size ≤ o ∧ Row V o 56 cs ∧ MadeO W V bInd nR T rs (.agg cs.toArray)
  | _ => True

theorem Made.below {W V V' : World} {v : Value} {n : Nat} (h : Made W V v n) (hb : Below V.heap.size V V') : Made W V' v n := by
  obtain ⟨b, h1, h2, h3⟩ := h
  exact ⟨b, h1, h2, h3.below hb h3.lt⟩
theorem MadeO.below {W V V' : World} {bInd nR T : Nat} {rs : Nat → Nat} {v : Value} (h : MadeO W V bInd nR T rs v) (hb : Below V.heap.size V V') : MadeO W V' bInd nR T rs v := by
  obtain ⟨bN, bB, bA, bH, bL, bS, h1, h2, h3, ⟨h4, h5⟩, ⟨h6, h7⟩, ⟨h8, h9⟩, ⟨h10, h11⟩, ⟨h12, h13⟩, h14⟩ := h
  exact ⟨bN, bB, bA, bH, bL, bS, h1, h2.below hb h2.lt, h3, ⟨h4, h5.below hb h5.lt⟩, ⟨h6, h7.below hb h7.lt⟩, ⟨h8, h9.below hb h9.lt⟩, ⟨h10, h11.below hb h11.lt⟩, ⟨h12, h13.below hb h13.lt⟩, h14⟩
theorem Post.below {W V V' : World} {bR bInd nR T : Nat} {rs : Nat → Nat} {v : Value} (i : Nat) (h : Post W V bR bInd nR T rs i v) (hb : Below V.heap.size V V') : Post W V' bR bInd nR T rs i v := by
  unfold Post at h ⊢
  split at h <;> try exact h
  · obtain ⟨b, h1, h2, h3⟩ := h
    exact ⟨b, h1, h2.below hb h2.lt, h3⟩
  · exact Made.below h hb
  · exact Made.below h hb
  · exact Made.below h hb
  · exact Made.below h hb
  · obtain ⟨b, h1, h2, h3⟩ := h
    exact ⟨b, h1, h2, h3.below hb h3.lt⟩
  · exact MadeO.below h hb
  · obtain ⟨o, cs, h1, h2, h3, h4⟩ := h
    exact ⟨o, cs, h1, h2, h3.below hb h3.lt, h4.below hb⟩
  · obtain ⟨o, cs, h1, h2, h3, h4⟩ := h
    exact ⟨o, cs, h1, h2, h3.below hb h3.lt, h4.below hb⟩

set_option maxRecDepth 100000 in
/-- The frame in the region: xs i is what operation i has left. -/
def frameOf (bRul : Nat) (kd : Int) (bR nR bInd : Nat) (xs : Nat → Value) : Act := ⟨#[ptr bRul, .int .i64 kd, dn bR nR, .map (some bInd), undef, undef, undef, undef, .pointer none, xs 20, undef, undef, undef, undef, undef, undef, undef, undef, undef, undef, undef, undef, undef, xs 0, xs 1, xs 2, xs 3, xs 4, xs 5, xs 6, xs 7, xs 8, xs 9, xs 10, xs 11, xs 12, xs 13, xs 14, xs 15, xs 16, xs 17, xs 18, xs 19, undef, undef, undef, undef, undef, undef, undef, undef, undef, undef, undef, undef, undef, undef, undef, undef, undef, undef, undef, undef, undef, undef, undef, undef, undef, undef, undef, undef, undef, undef, undef, undef, undef, undef, undef, undef, undef, undef, undef, undef, undef, undef, undef, undef, undef, undef, undef, undef, undef, undef, undef, undef, undef, undef, undef, undef, undef, undef, undef, undef, undef, undef, undef, undef, undef, undef, undef, undef, undef, undef, undef, undef, undef, undef, undef, undef, undef, undef, undef, undef, undef, undef, undef, undef, undef, undef, undef, undef, undef, undef, undef, undef, undef, undef, undef, undef, undef, undef, undef, undef, undef, undef, undef, undef, undef, undef, undef, undef, undef, undef, undef, undef, undef, undef, undef, undef, undef, undef, undef, undef, undef, undef, undef, undef, undef, undef, undef, undef, undef, undef, undef, undef, undef, undef, undef, undef, undef, undef, undef, undef, undef, undef, undef, undef, undef, undef, undef, undef, undef, undef, undef, undef, undef], []⟩

def isMake (i : Nat) : Bool := i == 5 || i == 8 || i == 11 || i == 14
def Inv (W : World) (bRul : Nat) (kd : Int) (bR bInd nR T : Nat) (rs : Nat → Nat) (listed : Array Bool) (a : Act) (V : World) : Prop :=
  ∃ xs : Nat → Value, a = frameOf bRul kd bR nR bInd xs ∧ Below W.heap.size W V ∧ (∀ i, listed.getD i false = true → Post W V bR bInd nR T rs i (xs i)) ∧
    (∀ i j, listed.getD i false = true → listed.getD j false = true → isMake i = true → isMake j = true → i ≠ j → (xs i).ownBlock ≠ (xs j).ownBlock) ∧ listed.size = 21

def updX (xs : Nat → Value) (i : Nat) (v : Value) : Nat → Value := fun j => if j = i then v else xs j
theorem getD_set {listed : Array Bool} {i j : Nat} (h : (listed.setIfInBounds i true).getD j false = true) : j = i ∨ listed.getD j false = true := by
  by_cases e : j = i
  · exact .inl e
  · right
    simp only [Array.getD_eq_getD_getElem?] at h ⊢
    rw [Array.getElem?_setIfInBounds_ne (by omega)] at h
    exact h
theorem made_block {W V : World} {bR bInd nR T : Nat} {rs : Nat → Nat} {i : Nat} {v : Value} (hm : isMake i = true) (h : Post W V bR bInd nR T rs i v) : ∃ b, v.ownBlock = some b ∧ b < V.heap.size := by
  have key : ∀ n, Made W V v n → ∃ b, v.ownBlock = some b ∧ b < V.heap.size := fun n ⟨b, h1, _, h3⟩ => ⟨b, by rw [h1]; rfl, h3.lt⟩
  simp [isMake] at hm
  rcases hm with ((rfl | rfl) | rfl) | rfl
  · exact key _ h
  · exact key _ h
  · exact key _ h
  · exact key _ h
theorem inv_next {W V V' : World} {bRul : Nat} {kd : Int} {bR bInd nR T : Nat} {rs : Nat → Nat} {listed : Array Bool} {xs : Nat → Value} (i : Nat) (v : Value)
    (hB : Below W.heap.size W V) (hP : ∀ i, listed.getD i false = true → Post W V bR bInd nR T rs i (xs i))
    (hD : ∀ i j, listed.getD i false = true → listed.getD j false = true → isMake i = true → isMake j = true → i ≠ j → (xs i).ownBlock ≠ (xs j).ownBlock)
    (hb : Below V.heap.size V V') (hv : Post W V' bR bInd nR T rs i v) (hm : isMake i = true → v.ownBlock = some V.heap.size) (hs : listed.size = 21) :
    Inv W bRul kd bR bInd nR T rs (listed.setIfInBounds i true) (frameOf bRul kd bR nR bInd (updX xs i v)) V' := by
  have hne : ∀ j, listed.getD j false = true → isMake j = true → isMake i = true → (xs j).ownBlock ≠ v.ownBlock := fun j hj hmj hmi => by
    obtain ⟨b, e1, e2⟩ := made_block hmj (hP j hj)
    rw [e1, hm hmi]
    intro e
    cases e
    omega
  refine ⟨updX xs i v, rfl, hB.trans (hb.mono hB.size), fun j hj => ?_, fun j k hj hk hmj hmk hjk => ?_, by simp [hs]⟩
  · unfold updX
    by_cases e : j = i
    · subst e; rw [if_pos rfl]; exact hv
    · rw [if_neg e]
      exact (hP j ((getD_set hj).resolve_left e)).below j hb
  · unfold updX
    by_cases e1 : j = i
    · subst e1
      rw [if_pos rfl, if_neg (Ne.symm hjk)]
      exact (hne k ((getD_set hk).resolve_left (Ne.symm hjk)) hmk hmj).symm
    · rw [if_neg e1]
      by_cases e2 : k = i
      · subst e2
        rw [if_pos rfl]
        exact hne j ((getD_set hj).resolve_left e1) hmj hmk
      · rw [if_neg e2]
        exact hD j k ((getD_set hj).resolve_left e1) ((getD_set hk).resolve_left e2) hmj hmk hjk
end Order
end Go.Proofs.Ybulkcrmg
