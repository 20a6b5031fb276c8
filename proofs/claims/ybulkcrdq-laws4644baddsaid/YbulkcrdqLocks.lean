/-
  The numbers under which this dump holds the library's lock, and that it holds it (Derived/Conc/MuLib.lean); TryLock on a free lock.
-/
import Derived.Test.YbulkcrdqRows
import Derived.Conc.MuLib
import Derived.Conc.MuLone
import Derived.WalkKit
import Derived.KernelRfl
namespace Go.Proofs.Ybulkcrdq
open Go.RowKit Go.MuLone
namespace Locks
abbrev muLink : Go.Conc.Locks.MuLink := { lock := 13, unlock := 9, ilock := 19, iunlock := 15, lockSlow := 28, unlockSlow := 26, disable := 20, enable := 21, acquire := 23, relMerge := 24, cas32 := 22, add32 := 25, tMutex := 54, tIMutex := 52, tPMutex := 84, tPIMutex := 93, tPI32 := 95, tUP := 97, tNoCopy := 46, tU32 := 48 }
theorem muLib : Go.Conc.Locks.MuLib Yba.prog muLink :=
  ⟨Yba.func13, Yba.func9, Yba.func19, Yba.func15, Yba.func20, Yba.func21, Yba.func23, Yba.func24, Yba.func22, Yba.func25, Yba.underlying52, Yba.runUnderlying52, Yba.sizeOf52, Yba.isAgg52, Yba.zeroValue52, Yba.underlying54, Yba.runUnderlying54, Yba.sizeOf54, Yba.isAgg54, Yba.zeroValue54, Yba.underlying84, Yba.runUnderlying84, Yba.sizeOf84, Yba.isAgg84, Yba.zeroValue84, Yba.underlying93, Yba.runUnderlying93, Yba.sizeOf93, Yba.isAgg93, Yba.zeroValue93, Yba.underlying95, Yba.runUnderlying95, Yba.sizeOf95, Yba.isAgg95, Yba.zeroValue95, Yba.underlying97, Yba.runUnderlying97, Yba.sizeOf97, Yba.isAgg97, Yba.zeroValue97, Yba.underlying46, Yba.runUnderlying46, Yba.sizeOf46, Yba.isAgg46, Yba.zeroValue46, Yba.underlying21, Yba.runUnderlying21, Yba.sizeOf21, Yba.isAgg21, Yba.zeroValue21, (by kernel_rfl)⟩

set_option maxHeartbeats 800000 in
set_option maxRecDepth 20000 in
/-- '(*internal/sync.Mutex).TryLock' on a free lock with nobody waiting: taken. -/
theorem itry_free (a : Addr) (w : World) (hc : w.cell? a = some (.int .i32 0)) (hz : w.frozen? a = false) :
    Calls Yba.prog 14 #[.pointer (some a)] w fun e w' => e = .returned (.bool true) ∧ w' = w.setCell a (.int .i32 1) := by
  have hd : ∀ w, (callFunc 20 #[]).run Yba.prog w = .ok (.value (.tuple #[])) w := disable muLib
  have he : ∀ w, (callFunc 21 #[]).run Yba.prog w = .ok (.value (.tuple #[])) w := enable muLib
  have hq : ∀ (a : Addr) w, (callFunc 23 #[.pointer (some a)]).run Yba.prog w = .ok (.value (.tuple #[])) w := acquire muLib
  have hcas : (callFunc 22 #[.pointer (some a), .int .i32 0, .int .i32 1]).run Yba.prog w = .ok (.value (.bool true)) (w.setCell a (.int .i32 1)) := run_call_cas_hit (P := Yba.prog) Yba.func22 (by kernel_rfl) (by kernel_rfl) (by kernel_rfl) .i32 (by kernel_rfl) (y := 1) hc hz
  have hc' : (w.setCell a (.int .i32 1)).cell? a = some (.int .i32 1) := by simp [go_sem, hc]
  have hcv := run_convert_to_unsafe (P := Yba.prog) (src := 93) (dst := 97) Yba.underlying93 Yba.underlying97 (by kernel_rfl) hc'
  have b1 : bits BinOp.and IntKind.i32 0 5 = 0 := by decide
  have b2 : bits BinOp.or IntKind.i32 0 1 = 1 := by decide
  go_enter Yba.func14, Yba.ntmps14
  go_wp2_with (first | simp only [hd] | simp only [he] | simp only [hq] | simp only [hcas])
  go_ret
  exact ⟨rfl, rfl⟩

set_option maxHeartbeats 800000 in
/-- '(*sync.Mutex).TryLock' on a free lock with nobody waiting: taken. -/
theorem try_free (b o : Nat) (w : World) (hc : w.cell? ⟨b, o, none⟩ = some (.int .i32 0)) (hz : w.frozen? ⟨b, o, none⟩ = false) :
    Calls Yba.prog 8 #[.pointer (some ⟨b, o, none⟩)] w fun e w' => e = .returned (.bool true) ∧ w' = w.setCell ⟨b, o, none⟩ (.int .i32 1) := by
  go_enter Yba.func8, Yba.ntmps8
  go_wp2_with fail
  refine (itry_free ⟨b, o, none⟩ w hc hz).mono ?_
  rintro e w1 ⟨rfl, rfl⟩
  go_wp2
  go_ret
  exact ⟨rfl, rfl⟩
end Locks
end Go.Proofs.Ybulkcrdq
