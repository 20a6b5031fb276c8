/-
  The small functions of LawS4660AOrder's road (name, words), and a map of names, said as a function.
-/
import Derived.Test.YbulkcrmgKit
import Derived.BigQuiet
import Derived.Deep.DeepCutAuto
import Derived.Deep.QuietTactic
import Derived.WalkSmall
import Derived.Laws.Cover3
import Derived.Laws.BitsAll
import Derived.Laws.BytesArg
import Derived.Maps.OwnSet
import Derived.StringKeys
namespace Go.Proofs.Ybulkcrmg
open Go.RowKit
namespace Order
open Kit

/-- The name that zzs4660aname makes: the letter p and the digit k. -/
def nm (p k : Nat) : ByteArray := strOfNums [(p : Int), ((48 + k : Nat) : Int)]

set_option maxRecDepth 20000 in
theorem name_ok (p k : Nat) (_hp : p < 256) (hk : k < 10) (w : World) :
    Calls Yba.prog 4 #[.int .u8 p, .int .i64 k] w fun e w' => e = .returned (.string (nm p k)) ∧ w' = w.alloc (.cells #[.int .u8 p, .int .u8 ((48 + k : Nat) : Int)] 5) := by
  have hconv : (convert 22 9 (.slice (some ⟨w.heap.size, 0, none⟩) 2 2)).run Yba.prog (w.alloc (.cells #[.int .u8 (p : Int), .int .u8 (48 + (k : Int))] 5)) = .ok (.string (nm p k)) (w.alloc (.cells #[.int .u8 (p : Int), .int .u8 (48 + (k : Int))] 5)) := by
    have hr := Row.new w 5 [.int .u8 (p : Int), .int .u8 (48 + (k : Int))] w.heap.size rfl
    refine run_convert_bytes_arg _ 22 5 Yba.underlying22 Yba.underlying5 w.heap.size 0 2 2 [(p : Int), ((48 + k : Nat) : Int)] rfl ?_ 9 Yba.underlying9
    intro i hi
    rw [Nat.zero_add, hr.cell i]
    match i, hi with
    | 0, _ => rfl
    | 1, _ => simp
  go_enter Yba.func4, Yba.ntmps4
  go_wp2
  go_ret
  exact ⟨rfl, by simp⟩

set_option maxRecDepth 20000 in
theorem words_ok (n : Nat) (hn : n ≤ 2000) (w : World) : Calls Yba.prog 9 #[.int .i64 n] w fun e w' => e = .returned (.int .i64 ((n + 63) / 64 : Nat)) ∧ w' = w := by
  go_enter Yba.func9, Yba.ntmps9
  go_wp2
  go_ret
  simp

/-- The name as a map's key. -/
def key (p k : Nat) : Lit := .string (nm p k).data.toList
theorem key_inj {p k p' k' : Nat} (hp : p < 256) (hk : k < 10) (hp' : p' < 256) (hk' : k' < 10) (h : key p k = key p' k') : p = p' ∧ k = k' := by
  unfold key nm strOfNums at h
  simp at h
  obtain ⟨h1, h2⟩ := h
  have e1 := congrArg UInt8.toNat h1
  have e2 := congrArg UInt8.toNat h2
  simp at e1 e2
  omega
theorem keyOf_nm (p k : Nat) : keyOf Yba.prog 9 (.string (nm p k)) = some (key p k) := Go.WideMaps.keyOf_string_mk Yba.underlying9 (by show (2 : Nat) ≤ maxLen; unfold maxLen; omega)

/-- Block b is a map of names that reads as f; it has sz entries; at most N stores have come. -/
def MapIs (W : World) (b : Nat) (f : Nat → Nat → Option Nat) (sz N : Nat) : Prop :=
  ∃ (n : Nat) (D : DataW Unit), n ≤ N ∧ W.ownsMap Yba.prog 9 (plainElem Yba.prog 3) b n D ∧ Maps.size D = sz ∧ (∀ p k, (f p k).getD 0 < 100000) ∧
    ∀ p k, p < 256 → k < 10 → Maps.has D (key p k) = (f p k).isSome ∧ D.atKey (key p k) (.lit (.int .i64 0)) = .lit (.int .i64 ((f p k).getD 0 : Nat))

theorem MapIs.made (w : World) : MapIs (w.alloc (.map #[] 0)) w.heap.size (fun _ _ => none) 0 0 :=
  ⟨0, .map [], by omega, World.ownsMap_made w _ _ _, rfl, fun _ _ => by simp, fun p k _ _ => ⟨rfl, rfl⟩⟩
theorem MapIs.kept {w w' : World} {row : Option Nat} {b : Nat} {f : Nat → Nat → Option Nat} {sz N : Nat} (h : MapIs w b f sz N) (hg : w.grownBy w' row) (hne : some b ≠ row) : MapIs w' b f sz N := by
  obtain ⟨n, D, h1, h2, h3⟩ := h
  exact ⟨n, D, h1, h2.kept hg hne, h3⟩
theorem MapIs.below {w w' : World} {X b : Nat} {f : Nat → Nat → Option Nat} {sz N : Nat} (h : MapIs w b f sz N) (hb : Below X w w') (hx : b < X) : MapIs w' b f sz N := by
  obtain ⟨n, D, h1, ⟨es, clock, e1, e2⟩, h3⟩ := h
  exact ⟨n, D, h1, ⟨es, clock, (hb.block b hx).trans e1, e2⟩, h3⟩
theorem MapIs.lt {w : World} {b : Nat} {f : Nat → Nat → Option Nat} {sz N : Nat} (h : MapIs w b f sz N) : b < w.heap.size := by
  obtain ⟨n, D, _, h2, _⟩ := h
  exact h2.lt
theorem MapIs.len {w : World} {b : Nat} {f : Nat → Nat → Option Nat} {sz N : Nat} (h : MapIs w b f sz N) (ty : TypeId) : (Builtin.len_ #[44] ty #[.map (some b)]).run Yba.prog w = .ok (.int .i64 sz) w := by
  obtain ⟨n, D, _, h2, h3, _⟩ := h
  rw [← h3]
  exact h2.len Yba.underlying44 ty
theorem zero3 (w : World) : (zeroValue 3).run Yba.prog w = .ok (.int .i64 0) w := Yba.zeroValue3 w
theorem MapIs.look {w : World} {b : Nat} {f : Nat → Nat → Option Nat} {sz N : Nat} (h : MapIs w b f sz N) (p k : Nat) (hp : p < 256) (hk : k < 10) : (Instr.lookup 44 (.map (some b)) (.string (nm p k)) false).run Yba.prog w = .ok (.int .i64 ((f p k).getD 0 : Nat)) w := by
  obtain ⟨n, D, _, h2, _, _, h5⟩ := h
  obtain ⟨c, hrun, hat, _⟩ := h2.lookup_int (Maps.string_keyed Yba.underlying9) Yba.underlying44 Yba.underlying3 (zero3 w) (keyOf_nm p k)
  rw [(h5 p k hp hk).2] at hat
  injection hat with hat
  injection hat with _ hat
  rw [hrun, ← hat]
theorem MapIs.lookOk {w : World} {b : Nat} {f : Nat → Nat → Option Nat} {sz N : Nat} (h : MapIs w b f sz N) (p k : Nat) (hp : p < 256) (hk : k < 10) :
    (Instr.lookup 44 (.map (some b)) (.string (nm p k)) true).run Yba.prog w = .ok (.tuple #[.int .i64 ((f p k).getD 0 : Nat), .bool (f p k).isSome]) w := by
  obtain ⟨n, D, _, h2, _, _, h5⟩ := h
  obtain ⟨v, ps, hrun, hR⟩ := h2.look_ok (Maps.string_keyed Yba.underlying9) Yba.underlying44 (zero3 w) (plainElem_int Yba.underlying3 (by decide)) (keyOf_nm p k)
  rw [(h5 p k hp hk).2] at hR
  obtain ⟨a, rfl, ha, _⟩ := plainElem_int_inv Yba.underlying3 hR
  simp only [Prod.mk.injEq, DataW.lit.injEq, Lit.int.injEq, true_and] at ha
  rw [hrun, (h5 p k hp hk).1, ha.1]
/-- f, with v at the name (p, k). -/
def upd (f : Nat → Nat → Option Nat) (p k v : Nat) : Nat → Nat → Option Nat := fun p' k' => if p' = p ∧ k' = k then some v else f p' k'
theorem MapIs.put {w : World} {b : Nat} {f : Nat → Nat → Option Nat} {sz N : Nat} (h : MapIs w b f sz N) (hN : N ≤ 4000) (p k v : Nat) (hp : p < 256) (hk : k < 10) (hv : v < 100000) :
    ∃ w', (Instr.mapUpdate 44 (.map (some b)) (.string (nm p k)) (.int .i64 v)).run Yba.prog w = .ok () w' ∧ MapIs w' b (upd f p k v) (if (f p k).isSome then sz else sz + 1) (N + 1) ∧ w.grownBy w' (some b) := by
  obtain ⟨n, D, h1, h2, h3, h4, h5⟩ := h
  have hwf : (Lit.int .i64 (v : Int)).wf = true := by
    have h := wrap64_wf (v : Int)
    rwa [show wrap64 (v : Int) = (v : Int) by unfold wrap64; omega] at h
  obtain ⟨w', hrun, ho, hg⟩ := h2.update (Maps.string_keyed Yba.underlying9) Yba.underlying44 (by unfold maxLen; omega) (keyOf_nm p k) (plainElem_int Yba.underlying3 hwf)
  have ht := h2.tidy (Maps.string_keyed Yba.underlying9)
  refine ⟨w', hrun, ⟨n + 1, _, by omega, ho, ?_, ?_, ?_⟩, hg⟩
  · rw [Maps.size_put ht, h3, (h5 p k hp hk).1]
  · intro p' k'
    unfold upd
    split
    · exact hv
    · exact h4 p' k'
  · intro p' k' hp' hk'
    unfold upd
    by_cases e : p' = p ∧ k' = k
    · obtain ⟨rfl, rfl⟩ := e
      rw [if_pos ⟨rfl, rfl⟩]
      exact ⟨Maps.has_put_same ht.isMap (show WideAt.IsKeyLit (key p' k') from trivial) _, Maps.atKey_put_same ht.isMap (show WideAt.IsKeyLit (key p' k') from trivial) _ _⟩
    · rw [if_neg e]
      have hne : key p' k' ≠ key p k := fun h => e (key_inj hp' hk' hp hk h)
      exact ⟨(Maps.has_put_other hne _).trans (h5 p' k' hp' hk').1, (Maps.atKey_put_other hne _ _).trans (h5 p' k' hp' hk').2⟩
end Order
end Go.Proofs.Ybulkcrmg
