/-
  A region that draws its order, by an invariant over what has come up: for a region that makes several blocks, in whatever order.
-/
import Derived.Test.YbulkcrmgTabs
import Derived.OrdersHeld
namespace Go.Proofs.Ybulkcrmg
open Go.RowKit
namespace Order
open Kit

/-- How many have not come up yet. -/
def left (listed : Array Bool) : Nat := listed.toList.countP (fun b => !b)

theorem left_set (listed : Array Bool) (i : Nat) (h : listed.getD i true = false) : left (listed.setIfInBounds i true) + 1 = left listed := by
  have hi : i < listed.size := by
    rcases Nat.lt_or_ge i listed.size with h' | h'
    · exact h'
    · simp [Array.getD, Nat.not_lt.2 h'] at h
  have hv : listed.toList[i]? = some false := by
    simp [Array.getD, hi] at h
    simp [hi, h]
  unfold left
  rw [Array.toList_setIfInBounds]
  generalize listed.toList = l at hv
  clear h hi
  induction l generalizing i with
  | nil => simp at hv
  | cons b l ih =>
    cases i with
    | zero =>
      simp at hv
      subst hv
      simp
    | succ i =>
      simp at hv
      have := ih i (by simpa using hv)
      simp only [List.set_cons_succ, List.countP_cons]
      omega

theorem ready_nil {md : Region.Mode} {ops : Array Oper} {listed : Array Bool} (h : left listed = 0) : Region.ready md ops listed = [] := by
  rw [List.eq_nil_iff_forall_not_mem]
  intro i hi
  have h1 := (mem_ready.1 hi).1
  have := left_set listed i h1
  omega

/-- **Whatever order is drawn: an invariant over what has come up.** -/
theorem wpAny_inv {P : Program} {ops : Array Oper} {Q : Exit → Act → World → Prop} {md : Region.Mode} (Inv : Array Bool → Act → World → Prop)
    (hstep : ∀ listed a w i, Inv listed a w → i ∈ Region.ready md ops listed → wpOp P ops Q i (fun a' w' => Inv (listed.setIfInBounds i true) a' w') a w)
    (hend : ∀ listed a w, Inv listed a w → Region.ready md ops listed = [] → Q .normal a w) :
    ∀ (fuel : Nat) (listed : Array Bool) (a : Act) (w : World), Inv listed a w → left listed ≤ fuel → wpAny P md ops Q fuel listed a w
  | 0, listed, a, w, hI, hf => by
    have h0 := ready_nil (md := md) (ops := ops) (show left listed = 0 by omega)
    exact ⟨h0, hend listed a w hI h0⟩
  | fuel + 1, listed, a, w, hI, hf => ⟨hend listed a w hI, fun i hi => wpOp_mono (fun a' w' h' => wpAny_inv Inv hstep hend fuel _ a' w' h' (by
      have := left_set listed i (mem_ready.1 hi).1
      omega)) (hstep listed a w i hI hi)⟩
end Order
end Go.Proofs.Ybulkcrmg
