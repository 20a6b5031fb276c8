/-
  LawS4647BPropose: the map of starts: empty, and with one entry; EchoLockBroadcast, Broadcast.
-/
import Derived.Test.YbulkcrfgGreatFmtErr
namespace Go.Proofs.YbulkcrfgGreatFmt
open Go.RowKit
namespace Propose
open Kit Go.ChangeMaps

theorem run_checkInt (em : Bool) (n : Nat) (k : Int) (w : World) : (Instr.checkKey em (n + 1) 3 (.int .i64 k)).run Ybaz.prog w = .ok () w := by
  rw [Instr.checkKey]
  simp [run_underlying Ybaz.underlying3]
theorem run_findNone (k : Int) (w : World) : (Instr.findKey 3 (.int .i64 k) []).run Ybaz.prog w = .ok none w := by
  simp [Instr.findKey, run_underlying Ybaz.underlying3, Instr.findNow]
theorem run_findOne (k : Int) (v : Value) (d : Nat) (w : World) : (Instr.findKey 3 (.int .i64 k) [{ key := .int .i64 k, val := v, born := d }]).run Ybaz.prog w = .ok (some (0, v)) w := by
  simp [Instr.findKey, run_underlying Ybaz.underlying3, Instr.findNow, Instr.sameNow]
theorem run_lookup_none (w : World) (b c : Nat) (k : Int) (h : w.heap[b]? = some (.map #[] c)) :
    (Instr.lookup 83 (.map (some b)) (.int .i64 k) true).run Ybaz.prog w = .ok (.tuple #[.string ⟨#[]⟩, .bool false]) w := by
  simp [Instr.lookup, run_underlying Ybaz.underlying83, MapKept.run_getObj_map h, run_checkInt true 9999 k w, run_findNone, Ybaz.zeroValue9]
theorem run_update_none (w : World) (b c : Nat) (k : Int) (v : Value) (h : w.heap[b]? = some (.map #[] c)) :
    ∃ w', (Instr.mapUpdate 83 (.map (some b)) (.int .i64 k) v).run Ybaz.prog w = .ok () w' ∧ Only b w w' ∧ w'.heap[b]? = some (.map #[{ key := .int .i64 k, val := v, born := c }] (c + 1)) := by
  refine ⟨setBlock w b (.map #[{ key := .int .i64 k, val := v, born := c }] (c + 1)), ?_, ⟨rfl, rfl, rfl, by simp [setBlock], fun i hi => heap_setBlock_other h _ hi⟩, heap_setBlock_same h _⟩
  simp [Instr.mapUpdate, run_underlying Ybaz.underlying83, MapKept.run_getObj_map h, run_checkInt false 9999 k w, run_findNone, MapKept.run_setObj_map _ h, Result.andThen, setBlock]
theorem run_lookup_one (w : World) (b c d : Nat) (k : Int) (v : Value) (h : w.heap[b]? = some (.map #[{ key := .int .i64 k, val := v, born := d }] c)) :
    (Instr.lookup 83 (.map (some b)) (.int .i64 k) true).run Ybaz.prog w = .ok (.tuple #[v, .bool true]) w := by
  simp [Instr.lookup, run_underlying Ybaz.underlying83, MapKept.run_getObj_map h, run_checkInt false 9999 k w, run_findOne]
theorem run_len_map (w : World) (b c : Nat) (es : Array MapEntry) (t : TypeId) (h : w.heap[b]? = some (.map es c)) :
    (Builtin.len_ #[83] t #[.map (some b)]).run Ybaz.prog w = .ok (goInt es.size) w := by
  simp [Builtin.len_, run_underlying Ybaz.underlying83, MapKept.run_getObj_map h]

/-- The text of a lock message. -/
def lockS (t : Nat) : ByteArray := ⟨#[108, 111, 99, 107, 0]⟩ ++ ⟨(poolL t).toArray⟩
theorem poolL_len (t : Nat) : (poolL t).length ≤ 257 := by
  unfold poolL
  split <;> simp [Lib.repeatL_length]
set_option maxRecDepth 20000 in
theorem ELB_ok (me k t : Nat) (hk : 1 ≤ k ∧ k ≤ 20) (w : World) :
    Calls Ybaz.prog 28 #[num me, num k, str (poolL t)] w fun e w' => e = .returned (.agg #[num me, .string (lockS t), num (3 * k - 1)]) ∧ Below w.heap.size w w' := by
  have e1 : IntKind.i64.wrap (3 * (k : Int)) = 3 * (k : Int) := by rw [IntKind.wrap_i64]; omega
  have e2 : 3 * (k : Int) - 1 = ((3 * k - 1 : Nat) : Int) := by omega
  have e3 : IntKind.i64.wrap ((3 * k - 1 : Nat) : Int) = ((3 * k - 1 : Nat) : Int) := by rw [IntKind.wrap_i64]; omega
  have hl : ¬ 9223372036854775807 < 5 + (poolL t).length := by have := poolL_len t; omega
  have hB := (Below.refl w.heap.size w).alloc (Nat.le_refl _) (.cells #[num me, .string (lockS t), num (3 * k - 1)] 128)
  go_enter Ybaz.func28, Ybaz.ntmps28
  go_wp2_with fail
  refine bodyPost_ret (v := .agg #[num me, .string (lockS t), num (3 * k - 1)]) ?_ rfl ⟨rfl, hB⟩
  simp [results, Ybaz.results28, go_sem, lockS]
set_option maxRecDepth 20000 in
theorem Broadcast_ok (eb mb c s : Nat) (m : ByteArray) (hs : 1 ≤ s ∧ s ≤ 1000) (w : World) (c3 : w.cell? ⟨eb, 3, none⟩ = some (.map (some mb))) (c4 : w.cell? ⟨eb, 4, none⟩ = some (.int .i64 0)) (hm : w.heap[mb]? = some (.map #[] c)) :
    Calls Ybaz.prog 29 #[ptr eb, .string m, num s] w fun e w' => e = .returned .nilIface ∧ Only mb w w' ∧ w'.heap[mb]? = some (.map #[{ key := num s, val := .string m, born := c }] (c + 1)) := by
  have hl := run_lookup_none w mb c (s : Int) hm
  obtain ⟨w', hu, ho, hh⟩ := run_update_none w mb c (s : Int) (.string m) hm
  have d1 : decide ((s : Int) < 1) = false := by simp; omega
  have d2 : decide (s = 0) = false := by simp; omega
  have d3 : ¬ s = 0 := by omega
  have HO : Hid _ := And.intro ho hh
  clear ho hh hs hm
  go_enter Ybaz.func29, Ybaz.ntmps29
  go_wp2_with (go_at_call 61; refine (SuperroundOf_ok _).mono ?_; rintro e w1 ⟨rfl, rfl⟩)
  go_ret
  exact ⟨rfl, HO.out⟩
end Propose
end Go.Proofs.YbulkcrfgGreatFmt
