/-
  LawS4647BPropose: zzs4647bnames; what the law holds of its lists.
-/
import Derived.Test.YbulkcrfgGreatFmtProp
namespace Go.Proofs.YbulkcrfgGreatFmt
open Go.RowKit
namespace Propose
open Kit

/-- The slice va holds the numbers xs. -/
def Vl (W : World) (va : Option Addr) (xs : List Nat) : Prop :=
  xs = [] ∨ ∃ b off, va = some ⟨b, off, none⟩ ∧ b < W.heap.size ∧ ∀ j x, xs[j]? = some x → W.cell? ⟨b, off + j, none⟩ = some (num x)
theorem Vl.below {W W' : World} {va : Option Addr} {xs : List Nat} (h : Vl W va xs) (hb : Below W.heap.size W W') : Vl W' va xs := by
  rcases h with h | ⟨b, off, e, hl, hc⟩
  · exact .inl h
  · exact .inr ⟨b, off, e, Nat.lt_of_lt_of_le hl hb.size, fun j x hx => (hb.cell hl).trans (hc j x hx)⟩
structure ElOk (W : World) (x : El) (xs : List Nat) : Prop where
  lt : ∀ y ∈ xs, y < 6
  len : xs.length ≤ 300
  f : 1 ≤ x.f ∧ x.f ≤ 7
  l : 1 ≤ x.l ∧ x.l ≤ 7
  vn : x.vn = xs.length
  vl : Vl W x.va xs
/-- Block g holds the lists E, whose values are X. -/
structure Lst (W : World) (g n : Nat) (E : Nat → El) (X : Nat → List Nat) : Prop where
  arr : Arr W g n E
  ok : ∀ i, i < n → ElOk W (E i) (X i)
theorem Lst.below {W W' : World} {g n : Nat} {E : Nat → El} {X : Nat → List Nat} (h : Lst W g n E X) (hb : Below W.heap.size W W') : Lst W' g n E X :=
  ⟨h.arr.below hb, fun i hi => { h.ok i hi with vl := (h.ok i hi).vl.below hb }⟩
def als (E : Nat → El) (X : Nat → List Nat) (i : Nat) : AL := ⟨(E i).f, (E i).l, X i, (E i).al⟩

/-- One of the first k lists is from f, for me, and names v. -/
def nmf (a : Nat → AL) (f me v : Nat) : Nat → Bool
  | 0 => false
  | k + 1 => nmf a f me v k || (decide ((a k).f = f) && decide ((a k).l = me) && (a k).names v)

theorem nmf_mono (a : Nat → AL) (f me v k : Nat) (h : nmf a f me v k = true) : ∀ d, nmf a f me v (k + d) = true
  | 0 => h
  | d + 1 => by
    show (nmf a f me v (k + d) || _) = true
    rw [nmf_mono a f me v k h d]
    rfl

set_option maxRecDepth 20000 in
set_option maxHeartbeats 4000000 in
theorem nms_ok (g n cap f me v : Nat) (E : Nat → El) (X : Nat → List Nat) (w : World) (hn : n ≤ 300) (hL : Lst w g n E X) :
    Calls Ybaz.prog 12 #[.slice (some ⟨g, 0, none⟩) n cap, num f, num me, num v] w fun x w' => x = .returned (.bool (nmf (als E X) f me v n)) ∧ Below w.heap.size w w' := by
  have HL : Hid (Lst w g n E X) := hL
  clear hL
  go_enter Ybaz.func12, Ybaz.ntmps12
  go_upto_region 2 with fail
  go_loopw [15] (fun v15 wr => ∃ k : Nat, k ≤ n ∧ v15 = num k ∧ nmf (als E X) f me v k = false ∧ Below w.heap.size w wr) (fun v _ => n - (intOf v).toNat)
  case atStart => exact ⟨0, Nat.zero_le _, rfl, rfl, Below.refl _ _⟩
  case round =>
    obtain ⟨k, hk, rfl, hno, hB⟩ := hrel
    have HNo : Hid _ := hno
    clear hno
    by_cases hlt : k < n
    · have g1 : (k : Int) < (n : Int) := by omega
      have hLr := HL.out.below hB
      have c0 := hLr.arr.c0 hlt
      have c1 := hLr.arr.c1 hlt
      have c2 := hLr.arr.c2 hlt
      have c3 := hLr.arr.c3 hlt
      have hO := hLr.ok k hlt
      obtain ⟨o1, o2, o3, o4, o5, o6⟩ := hO
      rw [o5] at c2
      have hs : nmf (als E X) f me v (k + 1) = (nmf (als E X) f me v k || (decide ((E k).f = f) && decide ((E k).l = me) && (als E X k).names v)) := rfl
      rw [HNo.out, Bool.false_or] at hs
      go_upto_region 4 with fail
      have hrow := Row.new wr 29 [num (E k).f, num (E k).l, .slice (E k).va (X k).length (E k).vc, .bool (E k).al] _ rfl
      have hb2 := (Below.refl wr.heap.size wr).alloc (Nat.le_refl _) (.cells #[num (E k).f, num (E k).l, .slice (E k).va (X k).length (E k).vc, .bool (E k).al] 29)
      have hB2 := hB.trans (hb2.mono hB.size)
      have hV := o6.below hb2
      have y0 := hrow.cell 0
      have y1 := hrow.cell 1
      have y2 := hrow.cell 2
      have y3 := hrow.cell 3
      simp only [List.getElem?_cons_zero, List.getElem?_cons_succ] at y0 y1 y2 y3
      generalize hbv : wr.heap.size = bv at hrow y0 y1 y2 y3 ⊢
      generalize hVV : World.alloc wr _ = V2 at hB2 hrow y0 y1 y2 y3 hV ⊢
      clear hVV hbv c0 c1 c2 c3 hB hrow hb2 o6 hLr o5
      by_cases h1 : (E k).f = f
      · have b1 : (((E k).f : Int) != (f : Int)) = false := by simp; omega
        by_cases h2 : (E k).l = me
        · have b2 : (((E k).l : Int) != (me : Int)) = false := by simp; omega
          simp only [h1, h2, decide_true, Bool.true_and] at hs
          cases h3 : (E k).al with
          | true =>
            rw [h3] at y3
            have HS : Hid (nmf (als E X) f me v (k + 1) = true) := by
              show nmf (als E X) f me v (k + 1) = true
              rw [hs]
              simp [AL.names, als, h3]
            clear hs
            go_wp2_with fail
            go_ret
            have ht := nmf_mono _ _ _ _ _ HS.out (n - (k + 1))
            rw [show k + 1 + (n - (k + 1)) = n by omega] at ht
            exact ⟨congrArg (fun b => Ending.returned (.bool b)) ht.symm, hB2⟩
          | false =>
            rw [h3] at y3
            have hs' : nmf (als E X) f me v (k + 1) = (X k).contains v := by
              rw [hs]
              simp [AL.names, als, h3]
            have HS : Hid _ := hs'
            have HV : Hid (Vl V2 (E k).va (X k)) := hV
            clear hs hs' hV
            generalize X k = xs at HS HV o1 o2 y2
            go_upto_region 8 with fail
            go_loopw [34] (fun v34 wq => ∃ j : Nat, j ≤ xs.length ∧ v34 = num j ∧ (∀ t x, t < j → xs[t]? = some x → x ≠ v) ∧ wq = V2) (fun v _ => xs.length - (intOf v).toNat)
            case atStart => exact ⟨0, Nat.zero_le _, rfl, fun t x ht => absurd ht (Nat.not_lt_zero _), rfl⟩
            case round =>
              obtain ⟨j, hj, rfl, hall, rfl⟩ := hrel
              have HA : Hid _ := hall
              clear hall
              by_cases hjl : j < xs.length
              · have g2 : (j : Int) < (xs.length : Int) := by omega
                obtain ⟨x, hx⟩ : ∃ x, xs[j]? = some x := ⟨xs[j], by simp⟩
                obtain ⟨b, off, hva, hcx⟩ : ∃ b off, (E k).va = some ⟨b, off, none⟩ ∧ wr.cell? ⟨b, off + j, none⟩ = some (num x) := by
                  rcases HV.out with h | ⟨b, off, e, _, hc⟩
                  · rw [h] at hjl; simp at hjl
                  · exact ⟨b, off, e, hc j x hx⟩
                have Hx : Hid _ := hx
                clear hx
                rw [hva]
                by_cases hxv : x = v
                · have b4 : ((x : Int) == (v : Int)) = true := by simp; omega
                  have HXV : Hid (x = v) := hxv
                  clear hxv
                  go_wp2_with fail
                  go_ret
                  have hmem : (xs.contains v) = true := by
                    rw [List.contains_iff_mem, ← HXV.out]
                    exact List.mem_of_getElem? Hx.out
                  have ht := nmf_mono _ _ _ _ _ (HS.out.trans hmem) (n - (k + 1))
                  rw [show k + 1 + (n - (k + 1)) = n by omega] at ht
                  exact ⟨congrArg (fun b => Ending.returned (.bool b)) ht.symm, hB2⟩
                · have b4 : ((x : Int) == (v : Int)) = false := by simp; omega
                  go_wp2_with fail
                  go_roundw
                  case rel =>
                    refine ⟨j + 1, by omega, by simp, ?_, trivial⟩
                    intro t y ht hy
                    by_cases e1 : t = j
                    · subst e1
                      rw [Hx.out] at hy
                      cases hy
                      exact hxv
                    · exact HA.out t y (by omega) hy
                  case measure => simp [intOf]; omega
              · obtain rfl : j = xs.length := by omega
                go_wp2_with fail
                go_roundw
                case rel =>
                  refine ⟨k + 1, by omega, by simp, ?_, hB2⟩
                  rw [HS.out, ← Bool.not_eq_true, List.contains_iff_mem]
                  intro hm
                  obtain ⟨t, ht, e1⟩ := List.mem_iff_getElem.1 hm
                  exact HA.out t v ht (by rw [List.getElem?_eq_getElem ht, e1]) rfl
                case measure => simp [intOf]; omega
        · have b2 : (((E k).l : Int) != (me : Int)) = true := by simp; omega
          have HS : Hid (nmf (als E X) f me v (k + 1) = false) := by
            show nmf (als E X) f me v (k + 1) = false
            rw [hs]
            simp [h2]
          clear hs
          go_wp2_with fail
          go_roundw
          case rel => exact ⟨k + 1, by omega, by simp, HS.out, hB2⟩
          case measure => simp [intOf]; omega
      · have b1 : (((E k).f : Int) != (f : Int)) = true := by simp; omega
        have HS : Hid (nmf (als E X) f me v (k + 1) = false) := by
          show nmf (als E X) f me v (k + 1) = false
          rw [hs]
          simp [h1]
        clear hs
        go_wp2_with fail
        go_roundw
        case rel => exact ⟨k + 1, by omega, by simp, HS.out, hB2⟩
        case measure => simp [intOf]; omega
    · obtain rfl : k = n := by omega
      go_wp2_with fail
      go_ret
      exact ⟨congrArg (fun b => Ending.returned (.bool b)) HNo.out.symm, hB⟩
end Propose
end Go.Proofs.YbulkcrfgGreatFmt
