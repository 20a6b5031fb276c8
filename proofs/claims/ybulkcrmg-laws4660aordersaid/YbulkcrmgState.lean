/-
  newOrder: the state between its loops, and what the loops reckon.
-/
import Derived.Test.YbulkcrmgAppend
namespace Go.Proofs.Ybulkcrmg
open Go.RowKit
namespace Order
open Kit

/-- The order's blocks: its own, the map of numbers, the four tables, the set. -/
structure Blk where
  ob : Nat
  bN : Nat
  bB : Nat
  bA : Nat
  bH : Nat
  bL : Nat
  bS : Nat

/-- The four tables behind one another: held, holders, below, above. -/
def ad (B : Blk) (T nR j : Nat) : Nat × Nat :=
  if j < T then (B.bH, j) else if j < T + nR then (B.bL, j - T) else if j < T + nR + nR then (B.bB, j - (T + nR)) else (B.bA, j - (T + nR + nR))
theorem ad_H (B : Blk) (T nR i : Nat) (h : i < T) : ad B T nR i = (B.bH, i) := by unfold ad; rw [if_pos h]
theorem ad_L (B : Blk) (T nR i : Nat) (h : i < nR) : ad B T nR (T + i) = (B.bL, i) := by
  unfold ad; rw [if_neg (by omega), if_pos (by omega)]; congr 1; omega
theorem ad_B (B : Blk) (T nR i : Nat) (h : i < nR) : ad B T nR (T + nR + i) = (B.bB, i) := by
  unfold ad; rw [if_neg (by omega), if_neg (by omega), if_pos (by omega)]; congr 1; omega
theorem ad_A (B : Blk) (T nR i : Nat) : ad B T nR (T + nR + nR + i) = (B.bA, i) := by
  unfold ad; rw [if_neg (by omega), if_neg (by omega), if_neg (by omega)]; congr 1; omega

structure Geo (S0 n₀ : Nat) (B : Blk) : Prop where
  lo : S0 ≤ B.ob ∧ S0 ≤ B.bN ∧ S0 ≤ B.bB ∧ S0 ≤ B.bA ∧ S0 ≤ B.bH ∧ S0 ≤ B.bL ∧ S0 ≤ B.bS
  hi : B.ob < n₀ ∧ B.bN < n₀ ∧ B.bB < n₀ ∧ B.bA < n₀ ∧ B.bH < n₀ ∧ B.bL < n₀ ∧ B.bS < n₀
  t : B.bB ≠ B.bA ∧ B.bB ≠ B.bH ∧ B.bB ≠ B.bL ∧ B.bA ≠ B.bH ∧ B.bA ≠ B.bL ∧ B.bH ≠ B.bL
  o : B.ob ≠ B.bB ∧ B.ob ≠ B.bA ∧ B.ob ≠ B.bH ∧ B.ob ≠ B.bL ∧ B.ob ≠ B.bS ∧ B.ob ≠ B.bN
  n : B.bN ≠ B.bB ∧ B.bN ≠ B.bA ∧ B.bN ≠ B.bH ∧ B.bN ≠ B.bL ∧ B.bN ≠ B.bS
  s : B.bS ≠ B.bB ∧ B.bS ≠ B.bA ∧ B.bS ≠ B.bH ∧ B.bS ≠ B.bL

theorem ad_mem (B : Blk) (T nR j : Nat) : (ad B T nR j).1 = B.bH ∨ (ad B T nR j).1 = B.bL ∨ (ad B T nR j).1 = B.bB ∨ (ad B T nR j).1 = B.bA := by
  unfold ad
  split
  · simp
  · split
    · simp
    · split <;> simp

def oCells (B : Blk) (bInd nR T : Nat) (q : Bool) : List Value := [.map (some B.bN), .map (some bInd), dn B.bB nR, dn B.bA nR, dn B.bH T, dn B.bL nR, dn B.bS ((T + 63) / 64), .bool q]

structure St (W0 W : World) (n₀ : Nat) (B : Blk) (bInd nR T : Nat) (rs : Nat → Nat) (zs : Nat → List Nat) (val : Nat → Value) (x : Nat) (q : Bool) : Prop where
  geo : Geo W0.heap.size n₀ B
  row : Row W B.ob 56 (oCells B bInd nR T q)
  nums : MapIs W B.bN (idx rs nR) (szI rs nR) nR
  tabs : Tabs W n₀ (T + nR + nR + nR) (ad B T nR) zs val
  sev : Row W B.bS 59 (List.replicate ((T + 63) / 64) (.int .u64 (x : Int)))
  low : Below W0.heap.size W0 W

section
variable {W0 W : World} {n₀ : Nat} {B : Blk} {bInd nR T : Nat} {rs : Nat → Nat} {zs : Nat → List Nat} {val : Nat → Value} {x : Nat} {q : Bool}

theorem St.alloc (h : St W0 W n₀ B bInd nR T rs zs val x q) (o : Obj) : St W0 (W.alloc o) n₀ B bInd nR T rs zs val x q :=
  ⟨h.geo, h.row.alloc o, h.nums.below ((Below.refl _ W).alloc (Nat.le_refl _) _) h.nums.lt, h.tabs.alloc o, h.sev.alloc o, h.low.alloc h.low.size _⟩
theorem St.drew (h : St W0 W n₀ B bInd nR T rs zs val x q) : St W0 W.drew n₀ B bInd nR T rs zs val x q :=
  ⟨h.geo, h.row, h.nums, h.tabs.drew, h.sev, ⟨h.low.os, h.low.tape, h.low.output, h.low.size, h.low.block⟩⟩

/-- Behind 't[i] = append(t[i], y)'. -/
theorem St.appended (h : St W0 W n₀ B bInd nR T rs zs val x q) {j y : Nat} {v' : Value} {w2 : World} (hj : j < T + nR + nR + nR) (hA : Ap W n₀ y (zs j) (val j) v' w2) :
    St W0 (w2.setCell ⟨(ad B T nR j).1, (ad B T nR j).2, none⟩ v') n₀ B bInd nR T rs (snoc zs j y) (setV val j v') x q := by
  obtain ⟨h1, h2, h3⟩ := hA
  have hT := (h.tabs.alloc (.cells #[num y] 3)).appended hj h1 h2 (by simpa using h3)
  have hsz := h.tabs.size
  have key : ∀ k, k < n₀ → k ≠ B.bH → k ≠ B.bL → k ≠ B.bB → k ≠ B.bA → (w2.setCell ⟨(ad B T nR j).1, (ad B T nR j).2, none⟩ v').heap[k]? = W.heap[k]? := fun k hk k1 k2 k3 k4 => by
    have hne : k ≠ (ad B T nR j).1 := by
      rcases ad_mem B T nR j with e | e | e | e <;> rw [e] <;> assumption
    rw [heap_setCell_other _ _ _ _ hne]
    refine (h2.block k (by simp; omega) (fun e => ?_)).trans (Below.heap_alloc W _ k (by omega))
    have := (own3 (h.tabs.own j hj) e.symm).1
    omega
  have g := h.geo
  obtain ⟨i1, i2, i3, i4, i5, i6, i7⟩ := g.hi
  obtain ⟨l1, l2, l3, l4, l5, l6, l7⟩ := g.lo
  obtain ⟨o1, o2, o3, o4, o5, o6⟩ := g.o
  obtain ⟨m1, m2, m3, m4, m5⟩ := g.n
  obtain ⟨s1, s2, s3, s4⟩ := g.s
  have hO : Only (ad B T nR j).1 w2 (w2.setCell ⟨(ad B T nR j).1, (ad B T nR j).2, none⟩ v') := (Only.refl _ w2).setCell _ _
  refine ⟨g, h.row.of_block (key _ i1 o3 o4 o1 o2), ?_, hT, h.sev.of_block (key _ i7 s3 s4 s1 s2), ?_⟩
  · obtain ⟨n, D, e1, ⟨es, clock, e2, e3⟩, e4⟩ := h.nums
    exact ⟨n, D, e1, ⟨es, clock, (key _ i2 m3 m4 m1 m2).trans e2, e3⟩, e4⟩
  · have hlow := h.low
    have hs := h2.size
    simp only [World.size_alloc] at hs
    refine ⟨hO.os.trans (h2.os.trans hlow.os), hO.tape.trans (h2.tape.trans hlow.tape), hO.output.trans (h2.output.trans hlow.output), by rw [hO.size]; have := hlow.size; omega, fun k hk => (key k (by omega) (by omega) (by omega) (by omega) (by omega)).trans (hlow.block k hk)⟩
end

/-- One member: its role's number o, the individual's number i. -/
def stM (T : Nat) (o : Option Nat) (i : Nat) (zs : Nat → List Nat) : Nat → List Nat := match o with
  | none => zs
  | some r => snoc (snoc zs i r) (T + r) i
/-- What the members make of the tables. -/
def zsM (nf : Nat → Option Nat) (ind : Nat → Nat) (T : Nat) (mI mR : Nat → Nat) : Nat → Nat → List Nat
  | 0 => fun _ => []
  | k + 1 => stM T (nf (mR k)) (ind (mI k)) (zsM nf ind T mI mR k)
/-- One senior. -/
def stS (T nR : Nat) (ok : Bool) (a b : Option Nat) (zs : Nat → List Nat) : Nat → List Nat := match ok, a, b with
  | true, some a, some b => snoc (snoc zs (T + nR + a) b) (T + nR + nR + b) a
  | _, _, _ => zs
/-- What the seniors make of the tables. -/
def zsS (nf : Nat → Option Nat) (T nR kd : Nat) (sA sB sK : Nat → Nat) (zs : Nat → List Nat) : Nat → Nat → List Nat
  | 0 => zs
  | k + 1 => stS T nR (decide (sK k = kd)) (nf (sA k)) (nf (sB k)) (zsS nf T nR kd sA sB sK zs k)
/-- The set of those with more than one role; whether there is one. -/
def sv (zs : Nat → List Nat) : Nat → Nat
  | 0 => 0
  | i + 1 => if 1 < (zs i).length then sv zs i ||| 2 ^ i else sv zs i
def sq (zs : Nat → List Nat) : Nat → Bool
  | 0 => false
  | i + 1 => if 1 < (zs i).length then true else sq zs i

theorem idx_lt (rs : Nat → Nat) (n p r v : Nat) (h : idx rs n p r = some v) : v < n := by
  induction n with
  | zero => cases h
  | succ n ih =>
    unfold idx upd at h
    split at h
    · cases h; omega
    · have := ih h; omega
theorem snoc_len (zs : Nat → List Nat) (j x i : Nat) : (snoc zs j x i).length ≤ (zs i).length + 1 := by
  unfold snoc
  split
  · rename_i e; subst e; simp
  · omega
theorem stM_len (T : Nat) (o : Option Nat) (i : Nat) (zs : Nat → List Nat) (j : Nat) : (stM T o i zs j).length ≤ (zs j).length + 2 := by
  cases o with
  | none => exact Nat.le_add_right _ _
  | some r =>
    have h1 := snoc_len (snoc zs i r) (T + r) i j
    have h2 := snoc_len zs i r j
    show (snoc (snoc zs i r) (T + r) i j).length ≤ (zs j).length + 2
    omega
theorem zsM_len (nf : Nat → Option Nat) (ind : Nat → Nat) (T : Nat) (mI mR : Nat → Nat) (k i : Nat) : (zsM nf ind T mI mR k i).length ≤ 2 * k := by
  induction k generalizing i with
  | zero => simp [zsM]
  | succ k ih =>
    have := stM_len T (nf (mR k)) (ind (mI k)) (zsM nf ind T mI mR k) i
    have := ih i
    unfold zsM
    omega
theorem stS_len (T nR : Nat) (ok : Bool) (a b : Option Nat) (zs : Nat → List Nat) (j : Nat) : (stS T nR ok a b zs j).length ≤ (zs j).length + 2 := by
  cases ok <;> cases a <;> cases b <;> try exact Nat.le_add_right _ _
  rename_i a b
  have h1 := snoc_len (snoc zs (T + nR + a) b) (T + nR + nR + b) a j
  have h2 := snoc_len zs (T + nR + a) b j
  show (snoc (snoc zs (T + nR + a) b) (T + nR + nR + b) a j).length ≤ (zs j).length + 2
  omega
theorem zsS_len (nf : Nat → Option Nat) (T nR kd : Nat) (sA sB sK : Nat → Nat) (zs : Nat → List Nat) (M : Nat) (hz : ∀ i, (zs i).length ≤ M) (k i : Nat) : (zsS nf T nR kd sA sB sK zs k i).length ≤ M + 2 * k := by
  induction k generalizing i with
  | zero => exact hz i
  | succ k ih =>
    have := ih i
    have := stS_len T nR (decide (sK k = kd)) (nf (sA k)) (nf (sB k)) (zsS nf T nR kd sA sB sK zs k) i
    unfold zsS
    omega
theorem sv_lt (zs : Nat → List Nat) (T : Nat) : sv zs T < 2 ^ T := by
  induction T with
  | zero => simp [sv]
  | succ T ih =>
    have h : 2 ^ T < 2 ^ (T + 1) := Nat.pow_lt_pow_right (by omega) (by omega)
    unfold sv
    split
    · exact Nat.or_lt_two_pow (by omega) h
    · omega
end Order
end Go.Proofs.Ybulkcrmg
