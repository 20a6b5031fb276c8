import Derived.Test.YbulkcrdqRand
namespace Go.Proofs.Ybulkcrdq
open Go.RowKit
namespace Rand
open Kit

/-- (*churn.Run).other, m running, no other node. -/
theorem other_run0 (w : World) (r g mb n : Nat) (hn : n ≤ 1) (h36 : w.cell? ⟨r, 36, none⟩ = some (.slice (some ⟨g, 0, none⟩) n n)) (h4 : w.cell? ⟨mb, 4, none⟩ = some (.int .u8 1)) :
    Calls Yba.prog 11 #[.pointer (some ⟨r, 0, none⟩), .pointer (some ⟨mb, 0, none⟩)] w fun e w' => e = .returned (.pointer none) ∧ w' = w := by
  go_enter Yba.func11, Yba.ntmps11
  go_wp2
  go_ret
  exact ⟨rfl, rfl⟩

/-- m not running, no node runs. -/
theorem other_out0 (w : World) (r g mb st : Nat) (hst : ((st : Int) == 1) = false) (h36 : w.cell? ⟨r, 36, none⟩ = some (.slice (some ⟨g, 0, none⟩) 0 0)) (h4 : w.cell? ⟨mb, 4, none⟩ = some (.int .u8 st)) :
    Calls Yba.prog 11 #[.pointer (some ⟨r, 0, none⟩), .pointer (some ⟨mb, 0, none⟩)] w fun e w' => e = .returned (.pointer none) ∧ w' = w := by
  go_enter Yba.func11, Yba.ntmps11
  go_wp2
  go_ret
  exact ⟨rfl, rfl⟩

/-- m not running, some node runs. -/
theorem other_out (w : World) (r g mb sb st n seed d : Nat) (v : Value) (hst : ((st : Int) == 1) = false) (hn : 0 < n) (hN : n ≤ 1024) (h36 : w.cell? ⟨r, 36, none⟩ = some (.slice (some ⟨g, 0, none⟩) n n)) (h4 : w.cell? ⟨mb, 4, none⟩ = some (.int .u8 st))
    (h34 : w.cell? ⟨r, 34, none⟩ = some (.pointer (some ⟨sb, 0, none⟩))) (hs : Src w sb (seed * 18446744073709551616 + 11400714819323198485)) (n1 : r ≠ sb) (n2 : mb ≠ sb) (n3 : g ≠ sb)
    (hd : d < n) (hB : BelowIs seed n d) (hv : w.cell? ⟨g, d, none⟩ = some v) :
    Calls Yba.prog 11 #[.pointer (some ⟨r, 0, none⟩), .pointer (some ⟨mb, 0, none⟩)] w fun e w' => e = .returned v ∧ Only sb w w' := by
  have HB : Hid (BelowIs seed n d) := hB
  have HS : Hid (Src w sb _) := hs
  clear hB hs
  go_enter Yba.func11, Yba.ntmps11
  go_wp2_with fail
  refine (HB.out w sb HS.out).mono ?_
  rintro e w1 ⟨rfl, ho⟩
  have c36 := (ho.cell r 36 n1).trans h36
  have c4 := (ho.cell mb 4 n2).trans h4
  have cd := (ho.cell g d n3).trans hv
  clear h36 h4 h34 hv
  go_wp2
  go_ret
  exact ⟨rfl, ho⟩

/-- m running, some other node runs; what is drawn lies before m's place. -/
theorem other_run_lo (w : World) (r g mb sb slot n seed d : Nat) (v : Value) (hn : 1 < n) (hN : n ≤ 1024) (h36 : w.cell? ⟨r, 36, none⟩ = some (.slice (some ⟨g, 0, none⟩) n n)) (h4 : w.cell? ⟨mb, 4, none⟩ = some (.int .u8 1)) (h5 : w.cell? ⟨mb, 5, none⟩ = some (.int .i64 slot))
    (h34 : w.cell? ⟨r, 34, none⟩ = some (.pointer (some ⟨sb, 0, none⟩))) (hs : Src w sb (seed * 18446744073709551616 + 11400714819323198485)) (n1 : r ≠ sb) (n2 : mb ≠ sb) (n3 : g ≠ sb)
    (hd : d < n - 1) (hB : BelowIs seed (n - 1) d) (hsl : d < slot) (hv : w.cell? ⟨g, d, none⟩ = some v) :
    Calls Yba.prog 11 #[.pointer (some ⟨r, 0, none⟩), .pointer (some ⟨mb, 0, none⟩)] w fun e w' => e = .returned v ∧ Only sb w w' := by
  have HB : Hid (BelowIs seed (n - 1) d) := hB
  have HS : Hid (Src w sb _) := hs
  clear hB hs
  go_enter Yba.func11, Yba.ntmps11
  go_wp2_with fail
  rw [show ((n : Int) - 1) = ((n - 1 : Nat) : Int) by omega]
  refine (HB.out w sb HS.out).mono ?_
  rintro e w1 ⟨rfl, ho⟩
  have c36 := (ho.cell r 36 n1).trans h36
  have c4 := (ho.cell mb 4 n2).trans h4
  have c5 := (ho.cell mb 5 n2).trans h5
  have cd := (ho.cell g d n3).trans hv
  clear h36 h4 h34 hv h5
  go_wp2
  go_ret
  exact ⟨rfl, ho⟩

theorem other_run_hi (w : World) (r g mb sb slot n seed d : Nat) (v : Value) (hn : 1 < n) (hN : n ≤ 1024) (h36 : w.cell? ⟨r, 36, none⟩ = some (.slice (some ⟨g, 0, none⟩) n n)) (h4 : w.cell? ⟨mb, 4, none⟩ = some (.int .u8 1)) (h5 : w.cell? ⟨mb, 5, none⟩ = some (.int .i64 slot))
    (h34 : w.cell? ⟨r, 34, none⟩ = some (.pointer (some ⟨sb, 0, none⟩))) (hs : Src w sb (seed * 18446744073709551616 + 11400714819323198485)) (n1 : r ≠ sb) (n2 : mb ≠ sb) (n3 : g ≠ sb)
    (hd : d < n - 1) (hB : BelowIs seed (n - 1) d) (hsl : slot ≤ d) (hv : w.cell? ⟨g, d + 1, none⟩ = some v) :
    Calls Yba.prog 11 #[.pointer (some ⟨r, 0, none⟩), .pointer (some ⟨mb, 0, none⟩)] w fun e w' => e = .returned v ∧ Only sb w w' := by
  have HB : Hid (BelowIs seed (n - 1) d) := hB
  have HS : Hid (Src w sb _) := hs
  clear hB hs
  go_enter Yba.func11, Yba.ntmps11
  go_wp2_with fail
  rw [show ((n : Int) - 1) = ((n - 1 : Nat) : Int) by omega]
  refine (HB.out w sb HS.out).mono ?_
  rintro e w1 ⟨rfl, ho⟩
  have c36 := (ho.cell r 36 n1).trans h36
  have c4 := (ho.cell mb 4 n2).trans h4
  have c5 := (ho.cell mb 5 n2).trans h5
  have cd := (ho.cell g (d + 1) n3).trans hv
  clear h36 h4 h34 hv h5
  go_wp2
  go_ret
  exact ⟨rfl, ho⟩

def ptr (g : Nat) : Value := .pointer (some ⟨g, 0, none⟩)

/-- How many of the first i places are not p. -/
def ol (p i : Nat) : Nat := if i ≤ p then i else i - 1
/-- The d-th place that is not p. -/
def pk (p d : Nat) : Nat := if d < p then d else d + 1

theorem ol_le (p i : Nat) : ol p i ≤ i := by unfold ol; split <;> omega
theorem ol_at (p : Nat) : ol p (p + 1) = ol p p := by unfold ol; simp
theorem ol_ne (p i : Nat) (h : i ≠ p) : ol p (i + 1) = ol p i + 1 := by unfold ol; split <;> split <;> omega
theorem at_ol (p i : Nat) (h : i ≠ p) : pk p (ol p i) = i := by unfold ol pk; split <;> split <;> omega
theorem at_lt (p n d : Nat) (h : d < ol p n) : pk p d < n := by
  unfold ol at h; unfold pk; split at h <;> split <;> omega
theorem at_ne (p d : Nat) : pk p d ≠ p := by unfold pk; split <;> omega

/-- (*churn.Run).other in one. -/
theorem other_all (w : World) (r g mb sb st sl n p seed d B : Nat) (hN : n ≤ 1024) (hst : (st = 1 ∧ sl = p ∧ p < n) ∨ (((st : Int) == 1) = false ∧ p = n)) (h36 : w.cell? ⟨r, 36, none⟩ = some (.slice (some ⟨g, 0, none⟩) n n))
    (h4 : w.cell? ⟨mb, 4, none⟩ = some (.int .u8 st)) (h5 : w.cell? ⟨mb, 5, none⟩ = some (.int .i64 sl))
    (h34 : w.cell? ⟨r, 34, none⟩ = some (.pointer (some ⟨sb, 0, none⟩))) (hs : Src w sb (seed * 18446744073709551616 + 11400714819323198485)) (n1 : r ≠ sb) (n2 : mb ≠ sb) (n3 : g ≠ sb)
    (hv : ∀ j, j < n → w.cell? ⟨g, j, none⟩ = some (ptr (B + j))) (hd : ol p n ≠ 0 → d < ol p n ∧ BelowIs seed (ol p n) d) :
    Calls Yba.prog 11 #[.pointer (some ⟨r, 0, none⟩), .pointer (some ⟨mb, 0, none⟩)] w fun e w' => e = .returned (if ol p n = 0 then .pointer none else ptr (B + pk p d)) ∧ Only sb w w' := by
  by_cases h0 : ol p n = 0
  · rw [if_pos h0]
    rcases hst with ⟨rfl, rfl, hp⟩ | ⟨hst, rfl⟩
    · refine (other_run0 w r g mb n (by unfold ol at h0; split at h0 <;> omega) h36 h4).mono ?_
      rintro e w' ⟨rfl, rfl⟩
      exact ⟨rfl, Only.refl _ _⟩
    · obtain rfl : p = 0 := by unfold ol at h0; split at h0 <;> omega
      refine (other_out0 w r g mb st hst h36 h4).mono ?_
      rintro e w' ⟨rfl, rfl⟩
      exact ⟨rfl, Only.refl _ _⟩
  · rw [if_neg h0]
    obtain ⟨hd1, hd2⟩ := hd h0
    rcases hst with ⟨rfl, rfl, hp⟩ | ⟨hst, rfl⟩
    · have e1 : ol sl n = n - 1 := by unfold ol; split <;> omega
      rw [e1] at hd1 hd2 h0
      by_cases hl : d < sl
      · refine (other_run_lo w r g mb sb sl n seed d _ (by omega) hN h36 h4 h5 h34 hs n1 n2 n3 hd1 hd2 hl (hv d (by omega))).mono ?_
        rintro e w' ⟨rfl, ho⟩
        exact ⟨by simp [pk, hl], ho⟩
      · refine (other_run_hi w r g mb sb sl n seed d _ (by omega) hN h36 h4 h5 h34 hs n1 n2 n3 hd1 hd2 (by omega) (hv (d + 1) (by omega))).mono ?_
        rintro e w' ⟨rfl, ho⟩
        exact ⟨by simp [pk, hl], ho⟩
    · have e1 : ol p p = p := by unfold ol; simp
      rw [e1] at hd1 hd2 h0
      refine (other_out w r g mb sb st p seed d _ hst (by omega) hN h36 h4 h34 hs n1 n2 n3 hd1 hd2 (hv d hd1)).mono ?_
      rintro e w' ⟨rfl, ho⟩
      exact ⟨by simp [pk, hd1], ho⟩
end Rand
end Go.Proofs.Ybulkcrdq
