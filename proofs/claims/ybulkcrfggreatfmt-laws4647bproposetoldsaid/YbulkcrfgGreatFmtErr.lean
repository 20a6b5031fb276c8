/-
  LawS4647BPropose: CheckValue: errors.New, and fmt.Errorf (its text told).
-/
import Derived.Test.YbulkcrfgGreatFmtUnion
import Derived.Stop.CallBack
import Derived.Stop.IfaceNil
import Derived.WalkSpells
namespace Go.Proofs
open Go.Extern.Stop Go.Stop Go.Extern
@[go_sem] theorem Ybaz.call82 (args : Array Value) (w : World) : (callFunc 82 args).run Ybaz.prog w = ((FmtStop.errorf #[9, 193] #[41] args).run Ybaz.prog w).andThen fun v w' => .ok (.value v) w' :=
  run_callFunc_extern Ybaz.func82 (by kernel_rfl) (by kernel_rfl) (by kernel_rfl) (by kernel_rfl) args w
@[go_sem] theorem Ybaz.guardF (name : String) (w : World) : (FmtStop.guard name).run Ybaz.prog w = .ok () w := by kernel_rfl
@[go_sem] theorem Ybaz.fmt0 : FmtStop.printed? ⟨#[118, 97, 108, 117, 101, 32, 105, 115, 32, 37, 100, 32, 98, 121, 116, 101, 115, 32, 108, 111, 110, 103, 44, 32, 109, 111, 114, 101, 32, 116, 104, 97, 110, 32, 37, 100]⟩ 2 = some [(0, 100, false), (1, 100, false)] := by kernel_rfl
@[go_sem] theorem Ybaz.fmt0r (w : World) : (FmtDoors.printed ⟨#[118, 97, 108, 117, 101, 32, 105, 115, 32, 37, 100, 32, 98, 121, 116, 101, 115, 32, 108, 111, 110, 103, 44, 32, 109, 111, 114, 101, 32, 116, 104, 97, 110, 32, 37, 100]⟩ 2).run Ybaz.prog w = .ok [(0, 100, false), (1, 100, false)] w := by kernel_rfl
def Ybaz.shape3 : List UInt8 := [5, 3, 0, 0, 0, 0, 0, 0, 0, 105, 110, 116]
@[go_sem] theorem Ybaz.op3_100 (name : String) (x : Int) (w : World) : (FmtStop.operand name false 100 false (.iface 3 (.int .i64 x))).run Ybaz.prog w = .ok (Ybaz.shape3, Go.Extern.Stop.digits 8 (x % 2 ^ 64).toNat) w := by kernel_rfl
@[go_sem] theorem Ybaz.op3_100w (name : String) (x : Int) (w : World) : (FmtStop.operand name true 100 false (.iface 3 (.int .i64 x))).run Ybaz.prog w = .ok (Ybaz.shape3, Go.Extern.Stop.digits 8 (x % 2 ^ 64).toNat) w := by kernel_rfl
@[go_sem] theorem Ybaz.ptr190 (w : World) : (FmtStop.ptrTo "errors.errorString").run Ybaz.prog w = .ok 190 w := by kernel_rfl
@[go_sem] theorem Ybaz.elem190 (w : World) : (elemOf 190).run Ybaz.prog w = .ok 192 w := by kernel_rfl
end Go.Proofs
namespace Go.Proofs.YbulkcrfgGreatFmt
open Go.RowKit Go.Extern.Stop Go.Stop Go.Extern
namespace Propose
open Kit

set_option maxRecDepth 20000 in
theorem errorf_ok (F : Interp) (a b : Int) (blk : Nat) (w : World) (hF : F.answers w.tape)
    (hc0 : w.cell? ⟨blk, 0, none⟩ = some (.iface 3 (.int .i64 a))) (hc1 : w.cell? ⟨blk, 1, none⟩ = some (.iface 3 (.int .i64 b))) :
    Calls Ybaz.prog 51 #[.string ⟨#[118, 97, 108, 117, 101, 32, 105, 115, 32, 37, 100, 32, 98, 121, 116, 101, 115, 32, 108, 111, 110, 103, 44, 32, 109, 111, 114, 101, 32, 116, 104, 97, 110, 32, 37, 100]⟩, .slice (some ⟨blk, 0, none⟩) 2 2] w fun e w' =>
      e = .returned (.iface 190 (.pointer (some ⟨w.heap.size, 0, none⟩))) ∧ Below w.heap.size w w' := by
  have hF' := answers_open hF
  go_enter Ybaz.func51, Ybaz.ntmps51
  go_wp2
  go_ret
  exact ⟨rfl, ((Below.refl _ _).alloc (Nat.le_refl _) _).drew⟩
set_option maxRecDepth 20000 in
theorem errNew_ok (s : ByteArray) (w : World) : Calls Ybaz.prog 50 #[.string s] w fun e w' => e = .returned (.iface 190 (ptr w.heap.size)) ∧ Below w.heap.size w w' := by
  have hB : Below w.heap.size w (w.alloc (.cells #[.string s] 192)) := (Below.refl _ _).alloc (Nat.le_refl _) _
  go_enter Ybaz.func50, Ybaz.ntmps50
  go_wp2_with fail
  go_ret
  exact ⟨rfl, hB⟩
set_option maxRecDepth 20000 in
theorem CheckValue_len (l : Bs) (h : 1 ≤ l.length ∧ l.length ≤ 256) (w : World) : Calls Ybaz.prog 19 #[str l] w fun e w' => e = .returned .nilIface ∧ w' = w := by
  have h1 : l.isEmpty = false := by cases l with
    | nil => simp at h
    | cons a b => rfl
  have h2 : decide ((256 : Int) < (l.length : Int)) = false := by simp; omega
  clear h
  go_enter Ybaz.func19, Ybaz.ntmps19
  go_wp2_with fail
  go_ret
  exact ⟨rfl, rfl⟩
set_option maxRecDepth 20000 in
theorem CheckValue_empty (w : World) : Calls Ybaz.prog 19 #[str []] w fun e w' => (∃ b, e = .returned (.iface 190 (ptr b))) ∧ Below w.heap.size w w' := by
  go_enter Ybaz.func19, Ybaz.ntmps19
  go_wp2_with (go_at_call 50; refine (errNew_ok _ _).mono ?_; rintro e w1 ⟨rfl, hb⟩)
  go_ret
  exact ⟨⟨_, rfl⟩, hb⟩
set_option maxRecDepth 20000 in
theorem CheckValue_long (F : Interp) (l : Bs) (h : 257 ≤ l.length) (w : World) (hF : F.answers w.tape) : Calls Ybaz.prog 19 #[str l] w fun e w' => (∃ b, e = .returned (.iface 190 (ptr b))) ∧ Below w.heap.size w w' := by
  have h1 : l.isEmpty = false := by cases l with
    | nil => simp at h
    | cons a b => rfl
  have h2 : decide ((256 : Int) < (l.length : Int)) = true := by simp; omega
  have HF : Hid (F.answers w.tape) := hF
  clear h hF
  have hB := (Below.refl w.heap.size w).alloc (Nat.le_refl _) (.cells #[.iface 3 (.int .i64 (l.length : Int)), .iface 3 (.int .i64 256)] 20)
  have hr := Row.new w 20 [.iface 3 (.int .i64 (l.length : Int)), .iface 3 (.int .i64 256)] _ rfl
  have c0 := hr.cell 0
  have c1 := hr.cell 1
  have HC : Hid _ := And.intro (And.intro c0 c1) hB
  clear c0 c1 hr hB
  go_enter Ybaz.func19, Ybaz.ntmps19
  go_wp2_with (go_at_call 51; refine (errorf_ok F (l.length : Int) 256 _ _ (by exact HF.out) (by exact HC.out.1.1) (by exact HC.out.1.2)).mono ?_; rintro e w1 ⟨rfl, hb⟩)
  go_ret
  exact ⟨⟨_, rfl⟩, HC.out.2.trans (hb.mono HC.out.2.size)⟩
theorem CheckValue_good (c : Nat) (h : 1 ≤ c ∧ c ≤ 4) (w : World) : Calls Ybaz.prog 19 #[str (poolL c)] w fun e w' => e = .returned .nilIface ∧ w' = w := by
  refine CheckValue_len (poolL c) ?_ w
  obtain rfl | rfl | rfl | rfl : c = 1 ∨ c = 2 ∨ c = 3 ∨ c = 4 := by omega
  all_goals decide
theorem CheckValue_bad (F : Interp) (c : Nat) (h : c = 0 ∨ c = 5) (w : World) (hF : F.answers w.tape) : Calls Ybaz.prog 19 #[str (poolL c)] w fun e w' => (∃ b, e = .returned (.iface 190 (ptr b))) ∧ Below w.heap.size w w' := by
  rcases h with rfl | rfl
  · exact CheckValue_empty w
  · refine CheckValue_long F (poolL 5) ?_ w hF
    show 257 ≤ (Lib.repeatL [122] 257).length
    rw [Lib.repeatL_length]
    simp
end Propose
end Go.Proofs.YbulkcrfgGreatFmt
