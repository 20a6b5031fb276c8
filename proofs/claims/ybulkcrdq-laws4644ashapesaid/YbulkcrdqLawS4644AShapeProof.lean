/-
  The proof of 'Rows.LawS4644AShapeSaid': the frame is the seat's own shell; the walk is by hand.
-/
import Derived.Test.YbulkcrdqRows
import Derived.WalkKit
import Derived.ProofKit
import Derived.OpenShut
import Derived.ShutString
import Derived.ChangeOld
import Derived.Below
import Derived.BigQuiet
import Derived.Deep.QuietTactic
import Derived.WalkSmall
import Derived.LaidEql
namespace Go.Proofs.Ybulkcrdq.lawS4644AShape
open Go.ChangeShapes Go.WideShapes Go.ChangeAt Go.RowKit
open Go.ChangeMaps (open_string shut_string)
set_option linter.unusedVariables false

theorem own : ownKnob Yba.prog.godebug = none := by kernel_rfl
theorem laidOut : laidOutB Yba.prog = true := by kernel_rfl

theorem Yba.info26 : (Yba.prog.info? 26).map (fun i => (i.zero, i.size, i.bytes)) = some (some (.agg #[.int .i64 0, .slice none 0 0]), 2, 32) := by kernel_rfl

def IsRow (k : IntKind) (w : World) (a : Option Addr) (len cap : Nat) (zs : List Int) : Prop :=
  (a = none ∧ len = 0 ∧ cap = 0 ∧ zs = []) ∨
  ∃ x, a = some x ∧ len ≤ cap ∧ cap ≤ maxLen ∧ zs.length = cap ∧ (∀ i, i < zs.length → w.cell? (x.add i) = some (.int k (zs.getD i 0))) ∧ ∀ n ∈ zs, (Lit.int k n).wf = true

theorem pairs_step (xs : List Value) (n k : Nat) (f : Nat → Value) (s : Value) (hl : xs.length = n * 2) (hk : k < n)
    (h : ∀ j, j < k → xs[2*j]? = some (f j) ∧ xs[2*j+1]? = some s) :
    ∀ j, j < k + 1 → ((xs.set (k*2) (f k)).set (k*2+1) s)[2*j]? = some (f j) ∧ ((xs.set (k*2) (f k)).set (k*2+1) s)[2*j+1]? = some s := by
  intro j hj
  by_cases e : j = k
  · subst e
    constructor
    · rw [List.getElem?_set_ne (by omega), show 2*j = j*2 by omega, List.getElem?_set_self (by omega)]
    · rw [show 2*j = j*2 by omega, List.getElem?_set_self (by simp; omega)]
  · have := h j (by omega)
    rw [List.getElem?_set_ne (by omega), List.getElem?_set_ne (by omega), List.getElem?_set_ne (by omega), List.getElem?_set_ne (by omega)]
    exact this

theorem toEvery (a0 : Option Addr) (len0 cap0 : Nat) (z0 : List Int) (a1 : Option Addr) (len1 cap1 : Nat) (w : World) (h1 : len0 ≤ 4096)
   (ha : 0 < len0 → ∃ b off, a0 = some ⟨b, off, none⟩ ∧ b < w.heap.size ∧ (∀ i, i < len0 → w.cell? ⟨b, off + i, none⟩ = some (.int .i64 (z0.getD i 0)))) :
    Calls Yba.prog 6 #[.slice a0 len0 cap0, .slice a1 len1 cap1] w fun e w' => ∃ xs, e = .returned (.slice (some ⟨w.heap.size, 0, none⟩) len0 len0) ∧
      w'.ownsRow w.heap.size 26 2 (.slice (some ⟨w.heap.size, 0, none⟩) len0 len0) len0 xs ∧ xs.length = len0 * 2 ∧ (∀ j, j < len0 → xs[2*j]? = some (.int .i64 (z0.getD j 0)) ∧ xs[2*j+1]? = some (.slice a1 len1 cap1)) ∧ Below w.heap.size w w' := by
  obtain ⟨i0, hi, hz0, hz1, hz2⟩ := info_parts Yba.info26
  have Ha : Hid _ := ha
  clear ha
  go_enter Yba.func6, Yba.ntmps6
  go_wp2_with (at_make; refine wpList_make_full _ rfl _ _ 23 rfl w.heap.size 26 i0 _ 2 Yba.underlying23 hi hz0 hz1 _ _ _ _ len0 rfl rfl rfl rfl (by rw [hz2]; omega) (by unfold maxLen; omega) (Nat.le_refl _) ?_)
  intro w1 hown hgrow
  have hbel : Below w.heap.size w w1 := (Below.refl _ _).grown hgrow (Nat.le_refl _) (by simp)
  clear hgrow
  obtain ⟨x0, hx0, hown0⟩ : ∃ x0 : List Value, x0.length = len0 * 2 ∧ w1.ownsRow w.heap.size 26 2 (.slice (some ⟨w.heap.size, 0, none⟩) len0 len0) len0 x0 := ⟨_, hown.1, hown⟩
  clear hown
  go_wp2
  go_loopw [13] (fun i wr => ∃ (k : Nat) (xs : List Value), k ≤ len0 ∧ i = .int .i64 k ∧ xs.length = len0 * 2 ∧
      wr.ownsRow w.heap.size 26 2 (.slice (some ⟨w.heap.size, 0, none⟩) len0 len0) len0 xs ∧ (∀ j, j < k → xs[2*j]? = some (.int .i64 (z0.getD j 0)) ∧ xs[2*j+1]? = some (.slice a1 len1 cap1)) ∧ Below w.heap.size w wr)
     (fun i _ => len0 - (intOf i).toNat)
  case atStart => exact ⟨0, x0, Nat.zero_le _, rfl, hx0, hown0, by intro j hj; omega, hbel⟩
  case round =>
    obtain ⟨k, xs, hk, rfl, hxl, ho, hxs, hbl⟩ := hrel
    by_cases hlt : k < len0
    · obtain ⟨b, off, rfl, hb, hc⟩ := Ha.out (by omega)
      have hcx : wr.cell? ⟨b, off + k, none⟩ = some (.int .i64 (z0.getD k 0)) := (hbl.cell hb).trans (hc k hlt)
      have hf0 := ho.frozenAt (k*2)
      have hf1 := ho.frozenAt (k*2+1)
      obtain ⟨c0, hc0⟩ : ∃ c0, wr.cell? ⟨w.heap.size, k*2, none⟩ = some c0 := ⟨xs[k*2], by rw [ho.cellAt _ (by omega)]; simp⟩
      obtain ⟨c1, hc1⟩ : ∃ c1, wr.cell? ⟨w.heap.size, k*2+1, none⟩ = some c1 := ⟨xs[k*2+1], by rw [ho.cellAt _ (by omega)]; simp⟩
      have Hxs : Hid _ := hxs
      clear hxs hc
      go_wp2
      go_roundw
      case rel =>
        have hp := pairs_step xs len0 k (fun j => .int .i64 (z0.getD j 0)) (.slice a1 len1 cap1) hxl hlt Hxs.out
        refine ⟨k + 1, _, by omega, by go_num, ?_, ((ho.stored _ _).1.stored _ _).1, hp, (hbl.setCell (by simp) _).setCell (by simp) _⟩
        simp [hxl]
      case measure => simp [intOf]; omega
    · have Hxs : Hid _ := hxs
      clear hxs
      go_wp2
      go_ret
      have e : k = len0 := by omega
      subst e
      exact ⟨xs, rfl, ho, hxl, Hxs.out, hbl⟩

theorem run_equalIn_slice_nil {P : Program} (w : World) (d : Nat) (t e : TypeId) (a : Option Addr) (n c n' c' : Nat) (h : P.underlying t = some (.slice e)) :
    (Op.equalIn (d + 1) t (.slice a n c) (.slice none n' c')).run P w = .ok a.isNone w := by
  cases a <;> simp [Op.equalIn, run_underlying h]

theorem run_eql_slice_nil {P : Program} (w : World) (t e : TypeId) (a : Option Addr) (n c n' c' : Nat) (h : P.underlying t = some (.slice e)) :
    (binOp .eql t (.slice a n c) (.slice none n' c')).run P w = .ok (.bool a.isNone) w := by
  simp only [binOp]
  simp [Op.equal, Op.maxDepth, run_equalIn_slice_nil w 9999 t e a n c n' c' h]

theorem run_neq_ptr_same {P : Program} (w : World) {tp te : TypeId} {j : TypeInfo} (a : Addr) (hp : P.underlying tp = some (.pointer te)) (hte : P.info? te = some j) :
    (binOp .neq tp (.pointer (some a)) (.pointer (some a))).run P w = .ok (.bool false) w := by
  have h : ∀ d : Nat, (Op.equalIn (d + 1) tp (.pointer (some a)) (.pointer (some a))).run P w = .ok true w := fun d => by
    simp [Op.equalIn, run_underlying hp, sizeOf, typeInfo, hte, run_sameAddr_same]
  simp only [binOp]
  simp [Op.equal, Op.maxDepth, h 9999]

theorem Yba.info3 : (Yba.prog.info? 3).map (fun i => (i.zero, i.size, i.bytes)) = some (some (.int .i64 0), 1, 8) := by kernel_rfl

theorem shape_main (a0 : Option Addr) (len0 cap0 : Nat) (z0 : List Int) (a1 : Option Addr) (len1 cap1 : Nat) (z1 : List Int) (w : World) (h0 : len0 ≤ 4096) (h1 : len1 ≤ 4096)
   (ha : 0 < len0 → ∃ b off, a0 = some ⟨b, off, none⟩ ∧ b < w.heap.size ∧ (∀ i, i < len0 → w.cell? ⟨b, off + i, none⟩ = some (.int .i64 (z0.getD i 0))))
   (hb : (a1 = none ∧ len1 = 0) ∨ (∃ x, a1 = some x ∧ len1 = 0) ∨ (∃ b off, a1 = some ⟨b, off, none⟩ ∧ 0 < len1 ∧ b < w.heap.size ∧ (∀ i, i < len1 → w.cell? ⟨b, off + i, none⟩ = some (.int .i64 (z1.getD i 0))))) :
    Calls Yba.prog 3 #[.slice a0 len0 cap0, .slice a1 len1 cap1] w fun e w' => e = .returned (.bool true) ∧ Below w.heap.size w w' := by
  obtain ⟨i3, hi3, _, _, _⟩ := info_parts Yba.info3
  have q23 : ∀ W a l c, (binOp .eql 23 (.slice a l c) (.slice none 0 0)).run Yba.prog W = .ok (.bool a.isNone) W := fun W a l c => run_eql_slice_nil W 23 _ a l c 0 0 Yba.underlying23
  have q22 : ∀ W a l c, (binOp .eql 22 (.slice a l c) (.slice none 0 0)).run Yba.prog W = .ok (.bool a.isNone) W := fun W a l c => run_eql_slice_nil W 22 _ a l c 0 0 Yba.underlying22
  have q27 : ∀ W a, (binOp .neq 27 (.pointer (some a)) (.pointer (some a))).run Yba.prog W = .ok (.bool false) W := fun W a => run_neq_ptr_same W a Yba.underlying27 hi3
  have Ha : Hid _ := ha
  clear ha
  have d0 : decide ((4096 : Int) < (len0 : Int)) = false := by simp; omega
  have d1 : decide ((4096 : Int) < (len1 : Int)) = false := by simp; omega
  go_enter Yba.func3, Yba.ntmps3
  go_wp2_with fail
  refine (toEvery a0 len0 cap0 z0 _ _ cap1 w h0 Ha.out).mono ?_
  rintro e w1 ⟨xs, rfl, ho, hxl, hxs, hbl⟩
  have Hxs : Hid _ := hxs
  have Ho : Hid (w1.ownsRow _ _ _ _ _ _) := ho
  clear hxs ho
  have Hb : Hid _ := hb
  clear hb
  have dd : ((len0 : Int) != (len0 : Int)) = false := by simp
  go_wp2
  go_loopw [6] (fun i wr => ∃ (k n : Nat), k ≤ len0 ∧ i = .int .i64 k ∧ wr = w1.drewN n) (fun i _ => len0 - (intOf i).toNat)
  case atStart => exact ⟨0, 0, Nat.zero_le _, rfl, rfl⟩
  case round =>
    obtain ⟨k, n, hk, rfl, rfl⟩ := hrel
    by_cases hlt : k < len0
    · obtain ⟨b, off, rfl, hbw, hc⟩ := Ha.out (by omega)
      have hca : w1.cell? ⟨b, off + k, none⟩ = some (.int .i64 (z0.getD k 0)) := (hbl.cell hbw).trans (hc k hlt)
      have hx0 : w1.cell? ⟨w.heap.size, k*2, none⟩ = some (.int .i64 (z0.getD k 0)) := by
        rw [Ho.out.cellAt _ (by omega), show k*2 = 2*k by omega]; exact (Hxs.out k hlt).1
      have hx1 : w1.cell? ⟨w.heap.size, k*2+1, none⟩ = some (.slice a1 len1 cap1) := by
        rw [Ho.out.cellAt _ (by omega), show k*2+1 = 2*k+1 by omega]; exact (Hxs.out k hlt).2
      clear hc
      have hne : ((z0.getD k 0) != (z0.getD k 0)) = false := by simp
      have hltI : (k : Int) < (len0 : Int) := by omega
      go_wp2
      go_quiet (fail)
      go_wp2
      by_cases hp : 0 < len1
      · obtain ⟨b1, off1, rfl, hb1, hc1⟩ : ∃ b off, a1 = some ⟨b, off, none⟩ ∧ b < w.heap.size ∧ (∀ i, i < len1 → w.cell? ⟨b, off + i, none⟩ = some (.int .i64 (z1.getD i 0))) := by
          rcases Hb.out with ⟨_, h⟩ | ⟨_, _, h⟩ | ⟨b, off, h, _, h2, h3⟩
          · omega
          · omega
          · exact ⟨b, off, h, h2, h3⟩
        have hpI : (0 : Int) < (len1 : Int) := by omega
        have HC : Hid _ := hc1
        clear hc1
        go_quiet (fail)
        go_wp2
        go_loopw [8] (fun i wr => ∃ (j m : Nat), j ≤ len1 ∧ i = .int .i64 j ∧ wr = w1.drewN m) (fun i _ => len1 - (intOf i).toNat)
        case atStart => exact ⟨0, _, Nat.zero_le _, rfl, by rw [World.drewN_drewN]⟩
        case round =>
          obtain ⟨j, m, hj, rfl, rfl⟩ := hrel
          by_cases hlj : j < len1
          · have hcb : w1.cell? ⟨b1, off1 + j, none⟩ = some (.int .i64 (z1.getD j 0)) := (hbl.cell hb1).trans (HC.out j hlj)
            have hne1 : ((z1.getD j 0) != (z1.getD j 0)) = false := by simp
            have hljI : (j : Int) < (len1 : Int) := by omega
            go_wp2
            go_quiet (fail)
            go_wp2
            go_roundw
            case rel => exact ⟨j + 1, _, by omega, by go_num, rfl⟩
            case measure => simp [intOf]; omega
          · go_wp2
            go_roundw
            case rel => exact ⟨k + 1, _, by omega, by go_num, rfl⟩
            case measure => simp [intOf]; omega
      · have dg : decide ((0 : Int) < (len1 : Int)) = false := by simp; omega
        go_quiet (fail)
        go_wp2
        go_loopw [8] (fun i wr => i = .int .i64 0 ∧ ∃ m, wr = w1.drewN m) (fun _ _ => 0)
        case atStart => exact ⟨rfl, _, by rw [World.drewN_drewN]⟩
        case round =>
          obtain ⟨rfl, m, rfl⟩ := hrel
          go_wp2
          go_roundw
          case rel => exact ⟨k + 1, _, by omega, by go_num, rfl⟩
          case measure => simp [intOf]; omega
    · go_wp2
      go_ret
      exact ⟨rfl, below_drewN hbl _⟩

theorem addr_of {w : World} {k : IntKind} {a : Addr} {zs : List Int} (h : ∀ i, i < zs.length → w.cell? (a.add i) = some (.int k (zs.getD i 0))) (hp : 0 < zs.length) :
    ∃ b off, a = ⟨b, off, none⟩ ∧ b < w.heap.size ∧ ∀ i, i < zs.length → w.cell? ⟨b, off + i, none⟩ = some (.int k (zs.getD i 0)) := by
  obtain ⟨b, off, rfl, hc⟩ := ints_at h hp
  exact ⟨b, off, rfl, World.block_lt_of_cell? w _ (hc 0 hp), hc⟩

theorem walk (a0 : Option Addr) (len0 cap0 : Nat) (z0 : List Int) (a1 : Option Addr) (len1 cap1 : Nat) (z1 : List Int) (w : World) (w0 : IsRow .i64 w a0 len0 cap0 z0) (w1 : IsRow .i64 w a1 len1 cap1 z1) :
    Calls Yba.prog 3 #[.slice a0 len0 cap0, .slice a1 len1 cap1] w fun e w' => e = .returned (.bool true) ∧ Below w.heap.size w w' := by
  by_cases hA : len0 ≤ 4096
  · by_cases hB : len1 ≤ 4096
    · refine shape_main a0 len0 cap0 z0 a1 len1 cap1 z1 w hA hB ?_ ?_
      · intro hp
        rcases w0 with ⟨_, h, _⟩ | ⟨x, rfl, hl, hm, hz, hc, _⟩
        · omega
        · obtain ⟨b, off, rfl, hb, hc'⟩ := addr_of hc (by omega)
          exact ⟨b, off, rfl, hb, fun i hi => hc' i (by omega)⟩
      · rcases w1 with ⟨h1, h2, _⟩ | ⟨x, rfl, hl, hm, hz, hc, _⟩
        · exact .inl ⟨h1, h2⟩
        · by_cases hp : 0 < len1
          · obtain ⟨b, off, rfl, hb, hc'⟩ := addr_of hc (by omega)
            exact .inr (.inr ⟨b, off, rfl, hp, hb, fun i hi => hc' i (by omega)⟩)
          · exact .inr (.inl ⟨x, rfl, by omega⟩)
    · clear w0 w1
      have d0 : decide ((4096 : Int) < (len0 : Int)) = false := by simp; omega
      have d1 : decide ((4096 : Int) < (len1 : Int)) = true := by simp; omega
      go_enter Yba.func3, Yba.ntmps3
      go_wp2
      go_ret
      exact ⟨rfl, Below.refl _ _⟩
  · clear w0 w1
    have d0 : decide ((4096 : Int) < (len0 : Int)) = true := by simp; omega
    go_enter Yba.func3, Yba.ntmps3
    go_wp2
    go_ret
    exact ⟨rfl, Below.refl _ _⟩

set_option maxRecDepth 100000 in
theorem lifted (os : Os) (started : os.Started) (H : Type) (enc : TypeId × Value → H) :
    ReturnsInHanded {} Yba.checked os 3 .any (Rows.lawS4644AShapeSpec.pre6 enc Yba.prog Yba.f3 Rows.lawS4644AShapeRow.domain false) (Rows.lawS4644AShapeSpec.post enc Yba.prog Yba.f3 false true false false) := by
  refine returnsInHanded_of_change (C := Yba.checked) own started (by kernel_rfl) Yba.func3
    (ChangeSpec.witness6 (enc := enc) (C := Yba.checked) false ⟨#[], #[.slice none 0 0, .slice none 0 0], []⟩ 8 (by kernel_rfl) (by kernel_rfl) (by kernel_rfl) (by kernel_rfl)) ?_
  intro W base args ds gs before hval0 hW hcnd _
  have hval : ∀ (j : Nat) t v, Yba.f3.params[j]? = some t → args[j]? = some v → Value.okWide Yba.prog W .any base t v := hval0
  have hW' := hW
  obtain ⟨p, q, hA0, hV, rfl, hfz, hnd⟩ := hW
  have hA : DataW.TrodAll enc Yba.prog W 0 (fun _ => true) true Yba.f3.params.toList args.toList ds p := hA0
  rw [Yba.params3] at hA hval
  obtain ⟨v0, vs0, d0, ds0, p0, q0, hargs, rfl, rfl, h0, r0⟩ := trodAll_cons hA
  obtain ⟨v1, vs1, d1, ds1, p1, q1, rfl, rfl, rfl, h1, r1⟩ := trodAll_cons r0
  obtain ⟨rfl, rfl, rfl⟩ := trodAll_nil r1
  obtain rfl : args = #[v0, v1] := by cases args; simp_all
  obtain ⟨rfl, rfl⟩ := trodVars_none hV
  obtain ⟨a0, len0, cap0, rfl⟩ := okWide_slice Yba.underlying22 (hval 0 22 v0 rfl rfl)
  have k0 := h0
  have lt0 : ∀ x ∈ p0, x.block < W.heap.size := by obtain ⟨m, hm⟩ := k0; exact DataW.trod_lt m _ _ _ hm
  obtain ⟨z0, w0⟩ : ∃ zs, IsRow .i64 W a0 len0 cap0 zs := by
    obtain ⟨fuel, hf⟩ := h0
    rcases open_ints Yba.underlying22 Yba.underlying3 (by kernel_rfl) hf with ⟨hcs, _⟩ | ⟨x, l, c, zs, hcs, _, hl, hm, hz, _, hcell, hwz⟩
    · simp [Value.cells] at hcs
      obtain ⟨rfl, rfl, rfl⟩ := hcs
      exact ⟨[], .inl ⟨rfl, rfl, rfl, rfl⟩⟩
    · simp [Value.cells] at hcs
      obtain ⟨rfl, rfl, rfl⟩ := hcs
      exact ⟨zs, .inr ⟨_, rfl, hl, hm, by simpa using hz, hcell, hwz⟩⟩
  obtain ⟨a1, len1, cap1, rfl⟩ := okWide_slice Yba.underlying22 (hval 1 22 v1 rfl rfl)
  have k1 := h1
  have lt1 : ∀ x ∈ p1, x.block < W.heap.size := by obtain ⟨m, hm⟩ := k1; exact DataW.trod_lt m _ _ _ hm
  obtain ⟨z1, w1⟩ : ∃ zs, IsRow .i64 W a1 len1 cap1 zs := by
    obtain ⟨fuel, hf⟩ := h1
    rcases open_ints Yba.underlying22 Yba.underlying3 (by kernel_rfl) hf with ⟨hcs, _⟩ | ⟨x, l, c, zs, hcs, _, hl, hm, hz, _, hcell, hwz⟩
    · simp [Value.cells] at hcs
      obtain ⟨rfl, rfl, rfl⟩ := hcs
      exact ⟨[], .inl ⟨rfl, rfl, rfl, rfl⟩⟩
    · simp [Value.cells] at hcs
      obtain ⟨rfl, rfl, rfl⟩ := hcs
      exact ⟨zs, .inr ⟨_, rfl, hl, hm, by simpa using hz, hcell, hwz⟩⟩
  clear hA0 hval0
  refine (walk a0 len0 cap0 z0 a1 len1 cap1 z1 W w0 w1).mono fun e W' ⟨he, bel⟩ => ?_
  subst he
  exact ⟨_, rfl, _, _, _, [], _, [], hW', trodAll_mk1 (shut_bool Yba.underlying4 _), (trodAll_cons_mk (Below.trod laidOut (by kernel_rfl) (of_decide_eq_true (by kernel_rfl)) k0 bel lt0) (trodAll_cons_mk (Below.trod laidOut (by kernel_rfl) (of_decide_eq_true (by kernel_rfl)) k1 bel lt1) trodAll_mk0)), rfl, bel.frame _, fun h => by cases h⟩

theorem over : Rows.lawS4644AShapeRow.holds Yba.pinned (OpenSpec.ofChange Rows.lawS4644AShapeSpec) :=
  OpenClaim.holds_of_wide 3 Yba.f3 rfl rfl rfl rfl rfl rfl rfl ⟨rfl, rfl, rfl, rfl, rfl⟩ rfl rfl rfl rfl rfl (by kernel_rfl) Yba.func3 (by kernel_rfl)
    (of_decide_eq_true (by kernel_rfl)) (by unfold Func.isWrapper; first | (rw [if_pos (by decide +kernel)]; kernel_rfl) | (rw [if_neg (by decide +kernel)]; exact ⟨rfl, rfl⟩))
    (fun os started H enc _ => lifted os started H enc)

theorem proved : Rows.LawS4644AShapeSaid := over
end Go.Proofs.Ybulkcrdq.lawS4644AShape
