/-
  LawS4647BPropose: nextEchoValue.
-/
import Derived.Test.YbulkcrfgGreatFmtEnc
namespace Go.Proofs.YbulkcrfgGreatFmt
open Go.RowKit
namespace Propose
open Kit

theorem _root_.Go.RowKit.Below.drw {X : Nat} {w w' : World} (h : Below X w w') : Below X w w'.drew := ⟨h.os, h.tape, h.output, h.size, h.block⟩
theorem _root_.Go.RowKit.Below.drwN {X : Nat} {w w' : World} (h : Below X w w') (n : Nat) : Below X w (w'.drewN n) := ⟨h.os, h.tape, h.output, h.size, h.block⟩
theorem uv_len (i : Nat) (hi : i < 6) : 1 ≤ (Lib.uvarint (poolL i).length).length ∧ (Lib.uvarint (poolL i).length).length ≤ 2 ∧ (poolL i).length ≤ 257 := by
  have hl5 : (poolL 5).length = 257 := by
    show (Lib.repeatL [122] 257).length = 257
    rw [Lib.repeatL_length]
    rfl
  obtain rfl | rfl | rfl | rfl | rfl | rfl : i = 0 ∨ i = 1 ∨ i = 2 ∨ i = 3 ∨ i = 4 ∨ i = 5 := by omega
  · rw [Lib.uvarint_small (by decide)]; exact ⟨by decide, by decide, by decide⟩
  · rw [Lib.uvarint_small (by decide)]; exact ⟨by decide, by decide, by decide⟩
  · rw [Lib.uvarint_small (by decide)]; exact ⟨by decide, by decide, by decide⟩
  · rw [Lib.uvarint_small (by decide)]; exact ⟨by decide, by decide, by decide⟩
  · rw [Lib.uvarint_small (by decide)]; exact ⟨by decide, by decide, by decide⟩
  · rw [hl5, Lib.uvarint_big (by omega), Lib.uvarint_small (by omega)]; exact ⟨by decide, by decide, by decide⟩

set_option maxRecDepth 20000 in
set_option maxHeartbeats 1000000 in
theorem next_ok (i : Nat) (hi : i < 6) (rest : List UInt8) (hr : rest.length ≤ 400000) (w : World) :
    Calls Ybaz.prog 59 #[str (encL i ++ rest)] w fun e w' => e = .returned (.tuple #[str (poolL i), str rest, .bool true]) ∧ Below w.heap.size w w' := by
  have hU := uvarintIn_ok i hi rest (by omega) w
  obtain ⟨h1, h2, h3⟩ := uv_len i hi
  obtain ⟨l, hl⟩ : ∃ l, encL i ++ rest = l := ⟨_, rfl⟩
  obtain ⟨u, hu⟩ : ∃ u, (Lib.uvarint (poolL i).length).length = u := ⟨_, rfl⟩
  obtain ⟨L, hL⟩ : ∃ L, (poolL i).length = L := ⟨_, rfl⟩
  obtain ⟨t, ht⟩ : ∃ t, t = u + L := ⟨_, rfl⟩
  have hn : l.length = u + L + rest.length := by
    rw [← hl, ← hu, ← hL]
    simp [encL]
    omega
  have hx1 : (⟨l.toArray⟩ : ByteArray).extract u t = ⟨(poolL i).toArray⟩ := by
    apply ByteArray.ext
    rw [ByteArray.data_extract, ht, ← hl]
    unfold encL
    rw [← hu, ← hL]
    simp
  obtain ⟨n, hnn⟩ : ∃ n, l.length = n := ⟨_, rfl⟩
  have hx2 : (⟨l.toArray⟩ : ByteArray).extract t n = ⟨rest.toArray⟩ := by
    apply ByteArray.ext
    rw [ByteArray.data_extract, ht, ← hnn, ← hl]
    unfold encL
    rw [← hu, ← hL]
    simp
    rw [List.take_of_length_le (by omega)]
  rw [hl, hu, hL] at hU
  rw [hl]
  rw [hu] at h1 h2
  rw [hL] at h3
  have HU : Hid (Calls Ybaz.prog 68 #[str l] w fun e w' => e = .returned (.tuple #[.int .u64 (L : Int), .int .i64 (u : Int)]) ∧ Below w.heap.size w w') := hU
  have d1 : decide ((u : Int) ≤ 0) = false := by simp; omega
  have d2 : (u : Int) ≤ (n : Int) := by omega
  have d3 : (t : Int) ≤ (n : Int) := by omega
  have d4 : (u : Int) + (L : Int) = (t : Int) := by omega
  have d5 : (u : Int) ≤ (t : Int) := by omega
  have d6 : (L : Int) ≤ (n : Int) - (u : Int) := by omega
  have d7 : IntKind.i64.wrap (t : Int) = (t : Int) := by rw [IntKind.wrap_i64]; omega
  have d8 : (n : Int) ≤ 1000000 := by omega
  clear hU hl hu hL ht hn
  go_enter Ybaz.func59, Ybaz.ntmps59
  go_upto_region 4 with (go_at_call 68; refine HU.out.mono ?_; rintro e w1 ⟨rfl, hb⟩)
  go_quiet (fail)
  go_wp2
  go_ret3
  exact ⟨rfl, hb.drwN _⟩
end Propose
end Go.Proofs.YbulkcrfgGreatFmt
