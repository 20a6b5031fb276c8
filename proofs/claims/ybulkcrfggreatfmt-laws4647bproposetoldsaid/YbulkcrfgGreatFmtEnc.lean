/-
  LawS4647BPropose: the lists' encoding, read back.
-/
import Derived.Test.YbulkcrfgGreatFmtSmall
namespace Go.Proofs.YbulkcrfgGreatFmt
open Go.RowKit
namespace Propose
open Kit

abbrev str (l : List UInt8) : Value := .string ⟨l.toArray⟩
/-- A value with its length ahead. -/
def encL (i : Nat) : List UInt8 := Lib.uvarint (poolL i).length ++ poolL i

set_option maxRecDepth 20000 in
theorem uvarintIn_small (a : UInt8) (rest : List UInt8) (ha : a.toNat < 128) (_hr : rest.length ≤ 1000000) (w : World) :
    Calls Ybaz.prog 68 #[str (a :: rest)] w fun e w' => e = .returned (.tuple #[.int .u64 (a.toNat : Int), .int .i64 1]) ∧ w' = w := by
  have h1 : ((⟨(a :: rest).toArray⟩ : ByteArray).size : Int) = ((rest.length + 1 : Nat) : Int) := by simp [ByteArray.size]
  have h0 : (⟨(a :: rest).toArray⟩ : ByteArray)[0]'(by simp [ByteArray.size]) = a := rfl
  have d2 : decide ((a.toNat : Int) < 128) = true := by simp; omega
  go_enter Ybaz.func68, Ybaz.ntmps68
  go_wp2_with fail
  go_ret2
  exact ⟨rfl, rfl⟩

/-- The cells of '[]byte(s)'. -/
theorem bytes_cells (w : World) (l : List UInt8) (cap a b : Nat) (j : Nat) (hj : j < l.length) :
    (w.drew.alloc (.cells (bytesRow ⟨l.toArray⟩ cap) 5 (a, b))).cell? ⟨w.heap.size, 0 + j, none⟩ = some (.int .u8 (l[j]).toNat) := by
  have h := bytesRow_at ⟨l.toArray⟩ cap j (by simpa using hj)
  have hh : (w.drew.alloc (.cells (bytesRow ⟨l.toArray⟩ cap) 5 (a, b))).heap[w.heap.size]? = some (.cells (bytesRow ⟨l.toArray⟩ cap) 5 (a, b)) := heap_alloc_new w.drew _
  rw [cell_of_row _ _ _ _ _ _ hh, Nat.zero_add, h]
  simp
set_option maxRecDepth 20000 in
set_option maxHeartbeats 1000000 in
/-- The long one: binary.Uvarint reads two bytes. -/
theorem uvarintIn_long (rest : List UInt8) (hr : rest.length ≤ 1000000) (h8 : 8 ≤ rest.length) (w : World) :
    Calls Ybaz.prog 68 #[str (129 :: 2 :: rest)] w fun e w' => e = .returned (.tuple #[.int .u64 257, .int .i64 2]) ∧ Below w.heap.size w w' := by
  have h0 : (⟨(129 :: 2 :: rest).toArray⟩ : ByteArray)[0]'(by simp [ByteArray.size]) = 129 := rfl
  have h2 : min ((rest.length : Int) + 1 + 1) 10 = 10 := by omega
  have h3 : (0 : Int) < (rest.length : Int) + 1 + 1 := by omega
  have h4 : (10 : Int) ≤ (rest.length : Int) + 1 + 1 := by omega
  have hx : (⟨(129 :: 2 :: rest).toArray⟩ : ByteArray).extract 0 10 = ⟨(129 :: 2 :: rest.take 8).toArray⟩ := by
    apply ByteArray.ext
    simp [ByteArray.data_extract]
  obtain ⟨C, hC⟩ : ∃ C, grownCap w (⟨(129 :: 2 :: rest.take 8).toArray⟩ : ByteArray).size 0 5 = C := ⟨_, rfl⟩
  have hconv := run_bytes_of_string (P := Ybaz.prog) w 9 23 5 ⟨(129 :: 2 :: rest.take 8).toArray⟩ Ybaz.underlying9 Ybaz.underlying23 Ybaz.underlying5
  rw [hC] at hconv
  have hsz : (⟨(129 :: 2 :: rest.take 8).toArray⟩ : ByteArray).size = 10 := by simp [ByteArray.size]; omega
  rw [hsz] at hconv
  have hc := bytes_cells w (129 :: 2 :: rest.take 8) C (bytesRow ⟨(129 :: 2 :: rest.take 8).toArray⟩ C).size ((bytesRow ⟨(129 :: 2 :: rest.take 8).toArray⟩ C).size + 1)
  have hB : Below w.heap.size w (w.drew.alloc (.cells (bytesRow ⟨(129 :: 2 :: rest.take 8).toArray⟩ C) 5 ((bytesRow ⟨(129 :: 2 :: rest.take 8).toArray⟩ C).size, (bytesRow ⟨(129 :: 2 :: rest.take 8).toArray⟩ C).size + 1))) := ((Below.refl _ w).drew).alloc (Nat.le_refl _) _
  generalize hW : World.alloc w.drew _ = W1 at hconv hc hB
  have hU := Ybaz.binary_Uvarint w.heap.size 0 10 C (129 :: 2 :: rest.take 8) W1 (by simp; omega) hc
  have hdec : Lib.uvarintDec (129 :: 2 :: rest.take 8) = (257, 2) := rfl
  rw [hdec] at hU
  have HU : Hid (Calls Ybaz.prog 93 #[.slice (some ⟨w.heap.size, 0, none⟩) 10 C] W1 fun e w' => e = .returned (.tuple #[.int .u64 257, .int .i64 2]) ∧ w' = W1) := hU
  clear hc hU hdec hsz hC hW
  go_enter Ybaz.func68, Ybaz.ntmps68
  go_wp2_with (go_at_call 93; refine HU.out.mono ?_; rintro e w2 ⟨rfl, rfl⟩)
  go_ret2
  exact ⟨rfl, hB⟩

/-- uvarintIn at an encoded value. -/
theorem uvarintIn_ok (i : Nat) (hi : i < 6) (rest : List UInt8) (hr : rest.length ≤ 500000) (w : World) :
    Calls Ybaz.prog 68 #[str (encL i ++ rest)] w fun e w' => e = .returned (.tuple #[.int .u64 ((poolL i).length : Nat), .int .i64 ((Lib.uvarint (poolL i).length).length : Nat)]) ∧ Below w.heap.size w w' := by
  obtain rfl | rfl | rfl | rfl | rfl | rfl : i = 0 ∨ i = 1 ∨ i = 2 ∨ i = 3 ∨ i = 4 ∨ i = 5 := by omega
  · have hu : Lib.uvarint (poolL 0).length = [0] := Lib.uvarint_small (by decide)
    rw [show encL 0 ++ rest = 0 :: rest by unfold encL; rw [hu]; rfl, hu]
    refine (uvarintIn_small 0 rest (by decide) (by first | omega | (simp; omega)) w).mono ?_
    rintro e w' ⟨rfl, rfl⟩
    exact ⟨rfl, Below.refl _ _⟩
  · have hu : Lib.uvarint (poolL 1).length = [1] := Lib.uvarint_small (by decide)
    rw [show encL 1 ++ rest = 1 :: (97 :: rest) by unfold encL; rw [hu]; rfl, hu]
    refine (uvarintIn_small 1 (97 :: rest) (by decide) (by first | omega | (simp; omega)) w).mono ?_
    rintro e w' ⟨rfl, rfl⟩
    exact ⟨rfl, Below.refl _ _⟩
  · have hu : Lib.uvarint (poolL 2).length = [1] := Lib.uvarint_small (by decide)
    rw [show encL 2 ++ rest = 1 :: (98 :: rest) by unfold encL; rw [hu]; rfl, hu]
    refine (uvarintIn_small 1 (98 :: rest) (by decide) (by first | omega | (simp; omega)) w).mono ?_
    rintro e w' ⟨rfl, rfl⟩
    exact ⟨rfl, Below.refl _ _⟩
  · have hu : Lib.uvarint (poolL 3).length = [1] := Lib.uvarint_small (by decide)
    rw [show encL 3 ++ rest = 1 :: (99 :: rest) by unfold encL; rw [hu]; rfl, hu]
    refine (uvarintIn_small 1 (99 :: rest) (by decide) (by first | omega | (simp; omega)) w).mono ?_
    rintro e w' ⟨rfl, rfl⟩
    exact ⟨rfl, Below.refl _ _⟩
  · have hu : Lib.uvarint (poolL 4).length = [2] := Lib.uvarint_small (by decide)
    rw [show encL 4 ++ rest = 2 :: (97 :: 98 :: rest) by unfold encL; rw [hu]; rfl, hu]
    refine (uvarintIn_small 2 (97 :: 98 :: rest) (by decide) (by first | omega | (simp; omega)) w).mono ?_
    rintro e w' ⟨rfl, rfl⟩
    exact ⟨rfl, Below.refl _ _⟩
  · have hl : (poolL 5).length = 257 := by
      show (Lib.repeatL [122] 257).length = 257
      rw [Lib.repeatL_length]
      rfl
    have hu : Lib.uvarint 257 = [129, 2] := by
      rw [Lib.uvarint_big (by omega), Lib.uvarint_small (by omega)]
      rfl
    have he : encL 5 ++ rest = 129 :: 2 :: (poolL 5 ++ rest) := by
      unfold encL
      rw [hl, hu]
      rfl
    rw [he, hl, hu]
    refine (uvarintIn_long (poolL 5 ++ rest) (by rw [List.length_append, hl]; omega) (by rw [List.length_append, hl]; omega) w).mono ?_
    rintro e w' ⟨rfl, hb⟩
    exact ⟨rfl, hb⟩
end Propose
end Go.Proofs.YbulkcrfgGreatFmt
