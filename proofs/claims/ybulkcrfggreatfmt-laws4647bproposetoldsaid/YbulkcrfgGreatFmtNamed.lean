/-
  LawS4647BPropose: (*acceptedList).named, .names.
-/
import Derived.Test.YbulkcrfgGreatFmtNext
import Derived.Maps.AppendAt
namespace Go.Proofs.YbulkcrfgGreatFmt
open Go.RowKit
namespace Propose
open Kit

/-- Values one behind another. -/
def encs : List Nat → List UInt8
  | [] => []
  | x :: xs => encL x ++ encs xs
theorem encs_len (xs : List Nat) (h : ∀ x ∈ xs, x < 6) : (encs xs).length ≤ 259 * xs.length := by
  induction xs with
  | nil => simp [encs]
  | cons x xs ih =>
    have h1 := uv_len x (h x (by simp))
    have h2 := ih (fun y hy => h y (by simp [hy]))
    simp only [encs, encL, List.length_append, List.length_cons]
    omega
theorem encs_ne {x : Nat} (xs : List Nat) (h : x < 6) : encs (x :: xs) ≠ [] := by
  have h1 := uv_len x h
  intro e
  have := congrArg List.length e
  simp only [encs, encL, List.length_append, List.length_nil] at this
  omega
theorem Ybaz.info9 : (Ybaz.prog.info? 9).map (fun i => (i.zero, i.size, i.bytes)) = some (some (.string ⟨#[]⟩), 1, 16) := by kernel_rfl
abbrev strs (xs : List Nat) : List Value := xs.map (fun x => str (poolL x))

def szS : Value → Nat
  | .string b => b.size
  | _ => 0
theorem own9 {w : World} {n₀ k : Nat} {cv : Value} {cs : List Value} (h : w.ownsRow n₀ 9 1 cv k cs) {b : Nat} (hb : cv.ownBlock = some b) : n₀ ≤ b ∧ b < w.heap.size := by
  rcases h.2 with ⟨rfl, _⟩ | ⟨g, cap, cur, rfl, hg, hc, _⟩
  · simp [Value.ownBlock] at hb
  · obtain rfl : g = b := by simpa [Value.ownBlock] using hb
    exact ⟨hg, (Array.getElem?_eq_some_iff.1 hc).1⟩
set_option maxRecDepth 20000 in
set_option maxHeartbeats 2000000 in
theorem named_ok (lb : Nat) (xs : List Nat) (hxs : ∀ x ∈ xs, x < 6) (hl : xs.length ≤ 300) (w : World) (hc : w.cell? ⟨lb, 2, none⟩ = some (str (encs xs))) :
    Calls Ybaz.prog 25 #[ptr lb] w fun e w' => ∃ v, e = .returned v ∧ w'.ownsRow w.heap.size 9 1 v xs.length (strs xs) ∧ Below w.heap.size w w' := by
  obtain ⟨i0, hi0, hz0, hz1, hz2⟩ := info_parts Ybaz.info9
  have HX : Hid (∀ x ∈ xs, x < 6) := hxs
  clear hxs
  go_enter Ybaz.func25, Ybaz.ntmps25
  go_upto_region 3 with fail
  go_loopw [3, 4] (fun v s wr => ∃ ys zs : List Nat, xs = ys ++ zs ∧ s = str (encs zs) ∧ wr.ownsRow w.heap.size 9 1 v ys.length (strs ys) ∧ Below w.heap.size w wr) (fun _ s _ => szS s)
  case atStart => exact ⟨[], xs, rfl, rfl, World.ownsRow_nil _ _ _ _, Below.refl _ _⟩
  case round =>
    obtain ⟨ys, zs, hxy, rfl, hO, hB⟩ := hrel
    cases zs with
    | nil =>
      have hem : (encs []).isEmpty = true := rfl
      have HXY : Hid (xs = ys ++ []) := hxy
      clear hxy
      go_wp2
      go_ret
      rw [HXY.out, List.append_nil]
      exact ⟨_, rfl, hO, hB⟩
    | cons z zs =>
      have hz6 : z < 6 := HX.out z (by rw [hxy]; simp)
      have hem : (encL z ++ encs zs).isEmpty = false := by
        have := encs_ne zs hz6
        cases h : (encL z ++ encs zs).isEmpty with
        | false => rfl
        | true => exact absurd (List.isEmpty_iff.1 h) this
      have hlz : (encs zs).length ≤ 400000 := by
        have h1 := encs_len zs (fun x hx => HX.out x (by rw [hxy]; simp [hx]))
        have h2 := congrArg List.length hxy
        simp at h2
        omega
      have hyl : ys.length ≤ 300 := by
        have h2 := congrArg List.length hxy
        simp at h2
        omega
      have hue := uv_len z hz6
      have hel : 1 ≤ (encL z).length := by unfold encL; rw [List.length_append]; omega
      have HXY : Hid (xs = ys ++ z :: zs) := hxy
      clear hxy
      rw [show encs (z :: zs) = encL z ++ encs zs from rfl]
      have HO : Hid (wr.ownsRow w.heap.size 9 1 u3 ys.length (strs ys)) := hO
      clear hO
      go_upto_region 6 with (go_at_call 59; refine (next_ok z hz6 (encs zs) hlz _).mono ?_; rintro e w1 ⟨rfl, hb⟩)
      have hO1 : (w1.alloc (.cells #[str (poolL z)] 9)).ownsRow w.heap.size 9 1 u3 ys.length (strs ys) := by
        have h1 : w1.ownsRow w.heap.size 9 1 u3 ys.length (strs ys) := HO.out.kept (row := none) ⟨hb.os, hb.tape, hb.output, hb.size, fun k hk _ => hb.block k hk⟩ (by cases u3.ownBlock <;> simp)
        exact h1.kept (World.grownBy_alloc w1 _ none) (by cases u3.ownBlock <;> simp)
      have hB1 : Below w.heap.size w (w1.alloc (.cells #[str (poolL z)] 9)) := (hB.trans (hb.mono hB.size)).alloc (Nat.le_trans hB.size hb.size) _
      have hcn := cell_one_new w1 (str (poolL z)) 9
      have hbs : w.heap.size ≤ (w1.alloc (.cells #[str (poolL z)] 9)).heap.size := hB1.size
      have HC : Hid ((w1.alloc (.cells #[str (poolL z)] 9)).ownsRow w.heap.size 9 1 u3 ys.length (strs ys) ∧ (∀ j u, [str (poolL z)][j]? = some u → (w1.alloc (.cells #[str (poolL z)] 9)).cell? ((⟨w1.heap.size, 0, none⟩ : Addr).add j) = some u) ∧ w.heap.size ≤ (w1.alloc (.cells #[str (poolL z)] 9)).heap.size) := ⟨hO1, hcn, hbs⟩
      clear hO1 hcn hbs
      go_wp2_with (at_builtin; refine wpList_append_own_at _ rfl _ _ 56 rfl w.heap.size 9 i0 _ 1 16 Ybaz.underlying56 hi0 hz0 hz1 hz2 rfl (by decide) u3 ys.length (strs ys) rfl HC.out.1 ⟨w1.heap.size, 0, none⟩ 1 1 [str (poolL z)] rfl rfl HC.out.2.1 (by simp [Value.oneCell']) (by unfold maxLen; omega) (by omega) HC.out.2.2 ?_; intro v' w2 hown' hgrow hnil hlies)
      go_roundw
      case rel =>
        refine ⟨ys ++ [z], zs, by rw [HXY.out]; simp, rfl, ?_, ?_⟩
        · simpa using hown'
        · refine hB1.grown hgrow hB1.size (fun k e => ?_)
          exact (own9 HC.out.1 e).1
      case measure =>
        show (encs zs).toArray.size < (encL z ++ encs zs).toArray.size
        rw [List.size_toArray, List.size_toArray, List.length_append]
        omega

theorem poolL_inj {a b : Nat} (ha : a < 6) (hb : b < 6) (h : poolL a = poolL b) : a = b := by
  have h5 : (poolL 5).length = 257 := by
    show (Lib.repeatL [122] 257).length = 257
    rw [Lib.repeatL_length]
    rfl
  have hl := congrArg List.length h
  obtain rfl | rfl | rfl | rfl | rfl | rfl : a = 0 ∨ a = 1 ∨ a = 2 ∨ a = 3 ∨ a = 4 ∨ a = 5 := by omega
  all_goals obtain rfl | rfl | rfl | rfl | rfl | rfl : b = 0 ∨ b = 1 ∨ b = 2 ∨ b = 3 ∨ b = 4 ∨ b = 5 := by omega
  all_goals first
    | rfl
    | (exfalso; rw [h5] at hl; revert hl; decide)
    | (exfalso; revert h; decide)

set_option maxRecDepth 20000 in
set_option maxHeartbeats 2000000 in
theorem names_ok (lb t : Nat) (xs : List Nat) (al : Bool) (ht : t < 6) (hxs : ∀ x ∈ xs, x < 6) (hl : xs.length ≤ 300) (w : World) (hc : w.cell? ⟨lb, 2, none⟩ = some (str (encs xs))) (hc3 : w.cell? ⟨lb, 3, none⟩ = some (.bool al)) :
    Calls Ybaz.prog 60 #[ptr lb, str (poolL t)] w fun e w' => e = .returned (.bool (al || xs.contains t)) ∧ Below w.heap.size w w' := by
  have HX : Hid (∀ x ∈ xs, x < 6) := hxs
  clear hxs
  cases al with
  | true =>
    go_enter Ybaz.func60, Ybaz.ntmps60
    go_wp2
    go_ret
    exact ⟨rfl, Below.refl _ _⟩
  | false =>
    rw [Bool.false_or]
    go_enter Ybaz.func60, Ybaz.ntmps60
    go_upto_region 4 with fail
    go_loopw [5] (fun s wr => ∃ ys zs : List Nat, xs = ys ++ zs ∧ ys.contains t = false ∧ s = str (encs zs) ∧ Below w.heap.size w wr) (fun s _ => szS s)
    case atStart => exact ⟨[], xs, rfl, rfl, rfl, Below.refl _ _⟩
    case round =>
      obtain ⟨ys, zs, hxy, hny, rfl, hB⟩ := hrel
      cases zs with
      | nil =>
        have hem : (encs []).isEmpty = true := rfl
        have HXY : Hid (xs = ys ++ []) := hxy
        have HN : Hid (ys.contains t = false) := hny
        clear hxy hny
        go_wp2
        go_ret
        have e : xs.contains t = false := by rw [HXY.out, List.append_nil]; exact HN.out
        rw [e]
        exact ⟨rfl, hB⟩
      | cons z zs =>
        have hz6 : z < 6 := HX.out z (by rw [hxy]; simp)
        have hem : (encL z ++ encs zs).isEmpty = false := by
          have := encs_ne zs hz6
          cases h : (encL z ++ encs zs).isEmpty with
          | false => rfl
          | true => exact absurd (List.isEmpty_iff.1 h) this
        have hlz : (encs zs).length ≤ 400000 := by
          have h1 := encs_len zs (fun x hx => HX.out x (by rw [hxy]; simp [hx]))
          have h2 := congrArg List.length hxy
          simp at h2
          omega
        have hue := uv_len z hz6
        have hel : 1 ≤ (encL z).length := by unfold encL; rw [List.length_append]; omega
        have HXY : Hid (xs = ys ++ z :: zs) := hxy
        have HN : Hid (ys.contains t = false) := hny
        clear hxy hny
        rw [show encs (z :: zs) = encL z ++ encs zs from rfl]
        by_cases hzt : z = t
        · subst hzt
          go_wp2_with (go_at_call 59; refine (next_ok z hz6 (encs zs) hlz _).mono ?_; rintro e w1 ⟨rfl, hb⟩)
          go_ret
          refine ⟨?_, hB.trans (hb.mono hB.size)⟩
          rw [HXY.out]
          simp
        · have hpne : ¬ poolL z = poolL t := fun h => hzt (poolL_inj hz6 ht h)
          have hpb : (poolL z == poolL t) = false := by simpa using hpne
          go_wp2_with (go_at_call 59; refine (next_ok z hz6 (encs zs) hlz _).mono ?_; rintro e w1 ⟨rfl, hb⟩)
          go_roundw
          case rel =>
            refine ⟨ys ++ [z], zs, by rw [HXY.out]; simp, ?_, rfl, hB.trans (hb.mono hB.size)⟩
            have := HN.out
            simp at this ⊢
            exact ⟨this, fun h => hzt h.symm⟩
          case measure =>
            show (encs zs).toArray.size < (encL z ++ encs zs).toArray.size
            rw [List.size_toArray, List.size_toArray, List.length_append]
            omega
end Propose
end Go.Proofs.YbulkcrfgGreatFmt
