/-
  LawS4660AOrder: what the law reads behind newOrder.
-/
import Derived.Test.YbulkcrmgEnv
namespace Go.Proofs.Ybulkcrmg
open Go.RowKit
namespace Order
open Kit

theorem _root_.Go.RowKit.Below.drw {X : Nat} {w w' : World} (h : Below X w w') : Below X w w'.drew := ⟨h.os, h.tape, h.output, h.size, h.block⟩
theorem _root_.Go.RowKit.Below.drwN {X : Nat} {w w' : World} (h : Below X w w') (n : Nat) : Below X w (w'.drewN n) := ⟨h.os, h.tape, h.output, h.size, h.block⟩

theorem Inp.has (I : Inp) {k : Nat} (h : k < I.nM) : ∃ v, I.ind (I.mI k) = some v ∧ v < I.n ∧ (I.fI 105 (I.mI k)).getD 0 = v := by
  have h1 := nI_has I.mI I.nM k h
  obtain ⟨v, hv⟩ := Option.isSome_iff_exists.1 h1
  refine ⟨v, hv, nI_lt _ _ _ _ hv, ?_⟩
  unfold Inp.fI
  rw [F7_i _ _ _ _ (show I.mI k < 8 from Nat.mod_lt _ (by omega))]
  unfold Inp.ind
  rw [hv]
  rfl
theorem Inp.inT (I : Inp) {k : Nat} (h : k < I.nM) : (I.fI 105 (I.mI k)).getD 0 < I.T := by
  obtain ⟨v, _, h2, h3⟩ := I.has h
  rw [h3]
  unfold Inp.T
  omega
theorem Inp.nf_lt (I : Inp) {r v : Nat} (h : I.nf r = some v) : v < I.nR := idx_lt _ _ _ _ _ h
theorem Inp.zS_low (I : Inp) {i : Nat} (h : i < I.T + I.nR) : I.zS I.nS i = I.zM I.nM i := zsS_low _ h
theorem Inp.zM_far (I : Inp) {i : Nat} (h : I.T + I.nR ≤ i) : I.zM I.nM i = [] := zsM_far I.nM (fun _ _ => I.nf_lt) (fun _ hk => I.inT hk) h
theorem Inp.mIl (I : Inp) (k : Nat) : I.mI k < 8 := Nat.mod_lt _ (by omega)
theorem Inp.mRl (I : Inp) (k : Nat) : I.mR k < 10 := Nat.mod_lt _ (by omega)
theorem Inp.sAl (I : Inp) (k : Nat) : I.sA k < 10 := Nat.mod_lt _ (by omega)
theorem Inp.sBl (I : Inp) (k : Nat) : I.sB k < 10 := Nat.mod_lt _ (by omega)
theorem Inp.sKl (I : Inp) (k : Nat) : I.sK k < 3 := Nat.mod_lt _ (by omega)
theorem Inp.zM_len (I : Inp) (O : I.nM ≤ 1024) (i : Nat) {k : Nat} (h : k ≤ I.nM) : (I.zM k i).length ≤ 2048 := by
  have := zsM_len I.nf (fun a => (I.fI 105 a).getD 0) I.T I.mI I.mR k i
  unfold Inp.zM
  omega
theorem Inp.zS_len (I : Inp) (O : I.nM ≤ 1024) (P : I.nS ≤ 1024) (i : Nat) {k : Nat} (h : k ≤ I.nS) : (I.zS k i).length ≤ 4096 := by
  have := zsS_len I.nf I.T I.nR I.k I.sA I.sB I.sK (I.zM I.nM) 2048 (fun i => I.zM_len O i (Nat.le_refl _)) k i
  unfold Inp.zS
  omega

section
variable {w0 W1 W : World} {I : Inp} {B : Blk} {n₀ : Nat} {val : Nat → Value} {bR bNum bI bMap N : Nat}
theorem Fin.cnum (h : Fin w0 W1 W I B n₀ val bR bNum bI bMap N) {wr : World} (hB : Below W.heap.size W wr) {j : Nat} (hj : j < 10) : wr.cell? ⟨bNum, j, none⟩ = some (.int .i64 (ofO (I.nf j))) :=
  ((h.nums.below hB h.nums.lt).cell j).trans (range_get _ _ _ hj)
theorem Fin.cind (h : Fin w0 W1 W I B n₀ val bR bNum bI bMap N) {wr : World} (hB : Below W.heap.size W wr) {j : Nat} (hj : j < 8) : wr.cell? ⟨bI, j, none⟩ = some (.int .i64 (ofO (I.ind j))) :=
  ((h.inds.below hB h.inds.lt).cell j).trans (range_get _ _ _ hj)
theorem Fin.co (h : Fin w0 W1 W I B n₀ val bR bNum bI bMap N) {wr : World} (hB : Below W.heap.size W wr) (f : Nat) : wr.cell? ⟨B.ob, f, none⟩ = (oCells B bMap I.nR I.T (sq (I.zM I.nM) I.T))[f]? :=
  (h.st.row.below hB h.st.row.lt).cell f
theorem Fin.tab (h : Fin w0 W1 W I B n₀ val bR bNum bI bMap N) {wr : World} (hB : Below W.heap.size W wr) (j b i : Nat) (hj : j < I.T + I.nR + I.nR + I.nR) (had : ad B I.T I.nR j = (b, i)) :
    ∃ aa cap, wr.cell? ⟨b, i, none⟩ = some (.slice aa (I.zS I.nS j).length cap) ∧ ∀ c y, (I.zS I.nS j)[c]? = some y → ∃ g, aa = some ⟨g, 0, none⟩ ∧ wr.cell? ⟨g, c, none⟩ = some (num y) := by
  have hT := h.st.tabs
  have hc := hT.cell j hj
  have hlow := hT.low j hj
  rw [had] at hc hlow
  obtain ⟨aa, cap, hsh⟩ := own_shape3 (hT.own j hj)
  have hown := hT.own j hj
  have hsz := hT.size
  rw [hsh] at hc hown
  refine ⟨aa, cap, (hB.cell (show b < W.heap.size from Nat.lt_of_lt_of_le hlow hsz)).trans hc, fun c y hy => ?_⟩
  rcases hown.2 with ⟨_, h0⟩ | ⟨g, cap', cur, e, hg, hcur, _⟩
  · rw [List.length_eq_zero_iff.1 h0] at hy
    simp at hy
  · injection e with e
    subst e
    have hlt := (Array.getElem?_eq_some_iff.1 hcur).1
    refine ⟨g, rfl, (hB.cell hlt).trans ?_⟩
    have := hown.cells (g := g) rfl c (num y) (by rw [List.getElem?_map, hy]; rfl)
    have e : (⟨g, 0, none⟩ : Addr).add c = ⟨g, c, none⟩ := by
      unfold Addr.add
      split
      · rename_i h0; rw [h0]
      · simp
    rw [e] at this
    exact this
end
end Order
end Go.Proofs.Ybulkcrmg
