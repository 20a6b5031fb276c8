/-
  DERIVED: THE SHELF's CONTRACTS AT THIS DUMP, IN PLAIN WORDS (tools/lay-plain.mjs out of 'YbazShelf.lean', which tools/lay-shelf.mjs wrote): THE SAME DECLARATIONS UNDER THE SAME NAMES: 'import', 'namespace', 'open', 'def', 'theorem' AND NOTHING ELSE: no command of the shelf's: FOR A HAND-IN. Each laying: the table of numbers ('.._ren') and one theorem, a field a fact of the dump's own or the kernel's comparison; each contract: ONE APPLICATION.
-/
import Derived.Shelf.Strings.Builder1
import Derived.Shelf.Strings.Builder2
import Derived.Shelf.Small.Bits
import Derived.Shelf.Strings.BuilderF
import Derived.Shelf.Strings.Builder2Cap
import Derived.Shelf.Strconv.Itoa0
import Derived.Ground.MnProg
import Derived.Shelf.Bin.AppendUvarint
import Derived.Shelf.Bin.Uvarint
import Derived.Shelf.Bin.UvarintEmpty
import Derived.Shelf.Sort.Plain
import Derived.Shelf.Bin.AppendUvarintArg
import Derived.Shelf.Strings.Prefix
import Derived.Shelf.Bits.Mul64
import Derived.Shelf.Strings.Repeat
import Derived.Shelf.Slices.Turned
import Derived.Ground.Names2Prog
import Derived.Shelf.Slices.Clone
import Derived.Shelf.Slices.CompactS
import Derived.Shelf.Slices.SearchI
import Derived.Shelf.Slices.Cells
import Derived.Shelf.Slices.In.SortNone
import Derived.Ground.SlgnProg
import Derived.Shelf.SlicesE.Clone
import Derived.Ground.SlgfProg
import Derived.Shelf.SlicesE.IndexFunc
import Derived.Test.YbulkcrfgGreatFmtCards
namespace Go.Proofs
open Go.Shelf
def Ybaz.lays170_ren : Go.Shelf.Ren := ⟨fun | 170 => 36 | n => n, fun | 70 => 136 | 3 => 3 | 0 => 0 | 72 => 138 | 37 => 23 | 5 => 5 | n => n, fun | n => n⟩
theorem Ybaz.lays170 : Go.Proofs.Lays.n170 Ybaz.prog Ybaz.lays170_ren := {
  mixed := by kernel_rfl
  f170 := Ybaz.func36.trans (congrArg some (by kernel_rfl))
  t0 := Ybaz.underlying0
  a0 := Ybaz.isAgg0
  z0 := Ybaz.sizeOf0
  v0 := Ybaz.zeroValue0
  t3 := Ybaz.underlying3
  a3 := Ybaz.isAgg3
  z3 := Ybaz.sizeOf3
  v3 := Ybaz.zeroValue3
  t37 := Ybaz.underlying23
  a37 := Ybaz.isAgg23
  z37 := Ybaz.sizeOf23
  v37 := Ybaz.zeroValue23
  t70 := Ybaz.underlying136
  a70 := Ybaz.isAgg136
  z70 := Ybaz.sizeOf136
  v70 := Ybaz.zeroValue136
  t72 := Ybaz.underlying138
  a72 := Ybaz.isAgg138
  z72 := Ybaz.sizeOf138
  v72 := Ybaz.zeroValue138 }
open Go.RowKit in
theorem Ybaz.Builder_Len (B b : Nat) (bs : List Value) (w : World) (h : Lib.IsBuilder 138 5 B b bs w) :
    Calls Ybaz.prog 36 #[.pointer (some ⟨b, 0, none⟩)] w fun e w' => e = .returned (.int .i64 bs.length) ∧ w' = w := Any.Builder_Len Ybaz.lays170 B b bs w h
def Ybaz.lays169_ren : Go.Shelf.Ren := ⟨fun | 169 => 37 | n => n, fun | 70 => 136 | 9 => 9 | 0 => 0 | 72 => 138 | 37 => 23 | 127 => 179 | 3 => 3 | 5 => 5 | n => n, fun | n => n⟩
theorem Ybaz.lays169 : Go.Proofs.Lays.n169 Ybaz.prog Ybaz.lays169_ren := {
  mixed := by kernel_rfl
  f169 := Ybaz.func37.trans (congrArg some (by kernel_rfl))
  t0 := Ybaz.underlying0
  a0 := Ybaz.isAgg0
  z0 := Ybaz.sizeOf0
  v0 := Ybaz.zeroValue0
  t3 := Ybaz.underlying3
  a3 := Ybaz.isAgg3
  z3 := Ybaz.sizeOf3
  v3 := Ybaz.zeroValue3
  t9 := Ybaz.underlying9
  a9 := Ybaz.isAgg9
  z9 := Ybaz.sizeOf9
  v9 := Ybaz.zeroValue9
  t37 := Ybaz.underlying23
  a37 := Ybaz.isAgg23
  z37 := Ybaz.sizeOf23
  v37 := Ybaz.zeroValue23
  t70 := Ybaz.underlying136
  a70 := Ybaz.isAgg136
  z70 := Ybaz.sizeOf136
  v70 := Ybaz.zeroValue136
  t72 := Ybaz.underlying138
  a72 := Ybaz.isAgg138
  z72 := Ybaz.sizeOf138
  v72 := Ybaz.zeroValue138
  t127 := Ybaz.underlying179
  a127 := Ybaz.isAgg179
  z127 := Ybaz.sizeOf179
  v127 := Ybaz.zeroValue179 }
theorem Ybaz.Builder_Extra_169 : Builder.Extra Ybaz.prog Ybaz.lays169_ren := {
  sizeBuilder := by kernel_rfl
  liesBuilder := by kernel_rfl
  t5 := Ybaz.underlying5
  a5 := Ybaz.isAgg5
  z5 := Ybaz.sizeOf5
  v5 := Ybaz.zeroValue5
  infoByte := by kernel_rfl
  cellsByte := by kernel_rfl
  sizeByte := by kernel_rfl
  neB5 := by decide }
open Go.RowKit in
theorem Ybaz.Builder_String (B b : Nat) (l : List UInt8) (w : World) (h : Lib.IsBuilder 138 5 B b (Lib.byteCells l) w) (h0 : l ≠ []) :
    Calls Ybaz.prog 37 #[.pointer (some ⟨b, 0, none⟩)] w fun e w' => e = .returned (.string ⟨l.toArray⟩) ∧ Below B w w' := Any.Builder_String Ybaz.lays169 Ybaz.Builder_Extra_169 B b l w h h0
open Go.RowKit in
theorem Ybaz.Builder_String_empty (B b : Nat) (w : World) (h : Lib.IsBuilder 138 5 B b [] w) (hBw : B ≤ w.heap.size) :
    Calls Ybaz.prog 37 #[.pointer (some ⟨b, 0, none⟩)] w fun e w' => e = .returned (.string ⟨#[]⟩) ∧ Below B w w' := Any.Builder_String_empty Ybaz.lays169 Ybaz.Builder_Extra_169 B b w h hBw
open Go.RowKit in
theorem Ybaz.Builder_String_any (B b : Nat) (l : List UInt8) (w : World) (h : Lib.IsBuilder 138 5 B b (Lib.byteCells l) w) (hBw : B ≤ w.heap.size) :
    Calls Ybaz.prog 37 #[.pointer (some ⟨b, 0, none⟩)] w fun e w' => e = .returned (.string ⟨l.toArray⟩) ∧ Below B w w' := Any.Builder_String_any Ybaz.lays169 Ybaz.Builder_Extra_169 B b l w h hBw
def Ybaz.lays241_ren : Go.Shelf.Ren := ⟨fun | 241 => 67 | 277 => 92 | n => n, fun | 70 => 136 | 3 => 3 | 0 => 0 | 72 => 138 | 37 => 23 | 5 => 5 | n => n, fun | n => n⟩
theorem Ybaz.lays241 : Go.Proofs.Lays.n241 Ybaz.prog Ybaz.lays241_ren := {
  mixed := by kernel_rfl
  f241 := Ybaz.func67.trans (congrArg some (by kernel_rfl))
  f277 := Ybaz.func92.trans (congrArg some (by kernel_rfl))
  t0 := Ybaz.underlying0
  a0 := Ybaz.isAgg0
  z0 := Ybaz.sizeOf0
  v0 := Ybaz.zeroValue0
  t3 := Ybaz.underlying3
  a3 := Ybaz.isAgg3
  z3 := Ybaz.sizeOf3
  v3 := Ybaz.zeroValue3
  t37 := Ybaz.underlying23
  a37 := Ybaz.isAgg23
  z37 := Ybaz.sizeOf23
  v37 := Ybaz.zeroValue23
  t70 := Ybaz.underlying136
  a70 := Ybaz.isAgg136
  z70 := Ybaz.sizeOf136
  v70 := Ybaz.zeroValue136
  t72 := Ybaz.underlying138
  a72 := Ybaz.isAgg138
  z72 := Ybaz.sizeOf138
  v72 := Ybaz.zeroValue138 }
theorem Ybaz.Builder_Extra_241 : Builder.Extra Ybaz.prog Ybaz.lays241_ren := {
  sizeBuilder := by kernel_rfl
  liesBuilder := by kernel_rfl
  t5 := Ybaz.underlying5
  a5 := Ybaz.isAgg5
  z5 := Ybaz.sizeOf5
  v5 := Ybaz.zeroValue5
  infoByte := by kernel_rfl
  cellsByte := by kernel_rfl
  sizeByte := by kernel_rfl
  neB5 := by decide }
open Go.RowKit in
theorem Ybaz.Builder_grow_fresh (B b n : Nat) (w : World) (hB : B ≤ b) (hbk : w.heap[b]? = some (.cells #[.pointer (some ⟨b, 0, none⟩), .slice none 0 0] 138 (0, 0))) (hBw : B ≤ w.heap.size) (hn : n ≤ 281474976710656) :
    Calls Ybaz.prog 67 #[.pointer (some ⟨b, 0, none⟩), .int .i64 n] w fun e w' => e = .returned (.tuple #[]) ∧ (Lib.BuilderAt 138 5 B b (.pointer (some ⟨b, 0, none⟩)) [] w' ∧ Below B w w') := Any.Builder_grow_fresh Ybaz.lays241 Ybaz.Builder_Extra_241 B b n w hB hbk hBw hn
def Ybaz.lays165_ren : Go.Shelf.Ren := ⟨fun | 165 => 34 | 240 => 66 | 241 => 67 | 276 => 91 | 277 => 92 | n => n, fun | 70 => 136 | 3 => 3 | 0 => 0 | 4 => 4 | 9 => 9 | 20 => 20 | 72 => 138 | 37 => 23 | 164 => 200 | 5 => 5 | n => n, fun | n => n⟩
theorem Ybaz.lays165 : Go.Proofs.Lays.n165 Ybaz.prog Ybaz.lays165_ren := {
  mixed := by kernel_rfl
  f165 := Ybaz.func34.trans (congrArg some (by kernel_rfl))
  f240 := Ybaz.func66.trans (congrArg some (by kernel_rfl))
  f241 := Ybaz.func67.trans (congrArg some (by kernel_rfl))
  f276 := Ybaz.func91.trans (congrArg some (by kernel_rfl))
  f277 := Ybaz.func92.trans (congrArg some (by kernel_rfl))
  t0 := Ybaz.underlying0
  a0 := Ybaz.isAgg0
  z0 := Ybaz.sizeOf0
  v0 := Ybaz.zeroValue0
  t3 := Ybaz.underlying3
  a3 := Ybaz.isAgg3
  z3 := Ybaz.sizeOf3
  v3 := Ybaz.zeroValue3
  t4 := Ybaz.underlying4
  a4 := Ybaz.isAgg4
  z4 := Ybaz.sizeOf4
  v4 := Ybaz.zeroValue4
  t9 := Ybaz.underlying9
  a9 := Ybaz.isAgg9
  z9 := Ybaz.sizeOf9
  v9 := Ybaz.zeroValue9
  t20 := Ybaz.underlying20
  a20 := Ybaz.isAgg20
  z20 := Ybaz.sizeOf20
  v20 := Ybaz.zeroValue20
  t37 := Ybaz.underlying23
  a37 := Ybaz.isAgg23
  z37 := Ybaz.sizeOf23
  v37 := Ybaz.zeroValue23
  t70 := Ybaz.underlying136
  a70 := Ybaz.isAgg136
  z70 := Ybaz.sizeOf136
  v70 := Ybaz.zeroValue136
  t72 := Ybaz.underlying138
  a72 := Ybaz.isAgg138
  z72 := Ybaz.sizeOf138
  v72 := Ybaz.zeroValue138
  t164 := Ybaz.underlying200
  a164 := Ybaz.isAgg200
  z164 := Ybaz.sizeOf200
  v164 := Ybaz.zeroValue200 }
theorem Ybaz.Builder_Extra_165 : Builder.Extra Ybaz.prog Ybaz.lays165_ren := {
  sizeBuilder := by kernel_rfl
  liesBuilder := by kernel_rfl
  t5 := Ybaz.underlying5
  a5 := Ybaz.isAgg5
  z5 := Ybaz.sizeOf5
  v5 := Ybaz.zeroValue5
  infoByte := by kernel_rfl
  cellsByte := by kernel_rfl
  sizeByte := by kernel_rfl
  neB5 := by decide }
open Go.RowKit in
theorem Ybaz.Builder_Grow_fresh (B b n : Nat) (w : World) (hB : B ≤ b) (hbk : w.heap[b]? = some (.cells #[.pointer none, .slice none 0 0] 138 (0, 0))) (hBw : B ≤ w.heap.size) (hn : n ≤ 281474976710656) :
    Calls Ybaz.prog 34 #[.pointer (some ⟨b, 0, none⟩), .int .i64 n] w fun e w' => e = .returned (.tuple #[]) ∧ (Lib.BuilderAt 138 5 B b (.pointer (some ⟨b, 0, none⟩)) [] w' ∧ Below B w w') := Any.Builder_Grow_fresh Ybaz.lays165 Ybaz.Builder_Extra_165 B b n w hB hbk hBw hn
def Ybaz.lays128_ren : Go.Shelf.Ren := ⟨fun | 128 => 111 | n => n, fun | 51 => 174 | 3 => 3 | 4 => 4 | 46 => 107 | 5 => 5 | 9 => 9 | n => n, fun | n => n⟩
theorem Ybaz.lays128 : Go.Proofs.Lays.n128 Ybaz.prog Ybaz.lays128_ren := {
  mixed := by kernel_rfl
  f128 := Ybaz.func111.trans (congrArg some (by kernel_rfl))
  t3 := Ybaz.underlying3
  a3 := Ybaz.isAgg3
  z3 := Ybaz.sizeOf3
  v3 := Ybaz.zeroValue3
  t4 := Ybaz.underlying4
  a4 := Ybaz.isAgg4
  z4 := Ybaz.sizeOf4
  v4 := Ybaz.zeroValue4
  t5 := Ybaz.underlying5
  a5 := Ybaz.isAgg5
  z5 := Ybaz.sizeOf5
  v5 := Ybaz.zeroValue5
  t9 := Ybaz.underlying9
  a9 := Ybaz.isAgg9
  z9 := Ybaz.sizeOf9
  v9 := Ybaz.zeroValue9
  t46 := Ybaz.underlying107
  a46 := Ybaz.isAgg107
  z46 := Ybaz.sizeOf107
  v46 := Ybaz.zeroValue107
  t51 := Ybaz.underlying174
  a51 := Ybaz.isAgg174
  z51 := Ybaz.sizeOf174
  v51 := Ybaz.zeroValue174 }
theorem Ybaz.bits_Len32 (x : Int) (w : World) (h0 : 0 ≤ x) (h1 : x ≤ 4294967295) :
    Calls Ybaz.prog 111 #[.int .u32 x] w fun e w' => e = .returned (.int .i64 (Lib.bitLen x.toNat)) ∧ w' = w := Any.bits_Len32 Ybaz.lays128 x w h0 h1
def Ybaz.lays125_ren : Go.Shelf.Ren := ⟨fun | 125 => 89 | 128 => 111 | 129 => 112 | n => n, fun | 46 => 107 | 3 => 3 | 51 => 174 | 53 => 36 | 4 => 4 | 5 => 5 | 9 => 9 | n => n, fun | n => n⟩
theorem Ybaz.lays125 : Go.Proofs.Lays.n125 Ybaz.prog Ybaz.lays125_ren := {
  mixed := by kernel_rfl
  f125 := Ybaz.func89.trans (congrArg some (by kernel_rfl))
  f128 := Ybaz.func111.trans (congrArg some (by kernel_rfl))
  f129 := Ybaz.func112.trans (congrArg some (by kernel_rfl))
  t3 := Ybaz.underlying3
  a3 := Ybaz.isAgg3
  z3 := Ybaz.sizeOf3
  v3 := Ybaz.zeroValue3
  t4 := Ybaz.underlying4
  a4 := Ybaz.isAgg4
  z4 := Ybaz.sizeOf4
  v4 := Ybaz.zeroValue4
  t5 := Ybaz.underlying5
  a5 := Ybaz.isAgg5
  z5 := Ybaz.sizeOf5
  v5 := Ybaz.zeroValue5
  t9 := Ybaz.underlying9
  a9 := Ybaz.isAgg9
  z9 := Ybaz.sizeOf9
  v9 := Ybaz.zeroValue9
  t46 := Ybaz.underlying107
  a46 := Ybaz.isAgg107
  z46 := Ybaz.sizeOf107
  v46 := Ybaz.zeroValue107
  t51 := Ybaz.underlying174
  a51 := Ybaz.isAgg174
  z51 := Ybaz.sizeOf174
  v51 := Ybaz.zeroValue174
  t53 := Ybaz.underlying36
  a53 := Ybaz.isAgg36
  z53 := Ybaz.sizeOf36
  v53 := Ybaz.zeroValue36 }
theorem Ybaz.bits_Len (x : Int) (w : World) (h0 : 0 ≤ x) (h1 : x ≤ 18446744073709551615) :
    Calls Ybaz.prog 89 #[.int .u64 x] w fun e w' => e = .returned (.int .i64 (Lib.bitLen x.toNat)) ∧ w' = w := Any.bits_Len Ybaz.lays125 x w h0 h1
def Ybaz.lays135_ren : Go.Shelf.Ren := ⟨fun | 135 => 95 | n => n, fun | 5 => 5 | 3 => 3 | 9 => 9 | n => n, fun | n => n⟩
theorem Ybaz.lays135 : Go.Proofs.Lays.n135 Ybaz.prog Ybaz.lays135_ren := {
  mixed := by kernel_rfl
  f135 := Ybaz.func95.trans (congrArg some (by kernel_rfl))
  t3 := Ybaz.underlying3
  a3 := Ybaz.isAgg3
  z3 := Ybaz.sizeOf3
  v3 := Ybaz.zeroValue3
  t5 := Ybaz.underlying5
  a5 := Ybaz.isAgg5
  z5 := Ybaz.sizeOf5
  v5 := Ybaz.zeroValue5
  t9 := Ybaz.underlying9
  a9 := Ybaz.isAgg9
  z9 := Ybaz.sizeOf9
  v9 := Ybaz.zeroValue9 }
theorem Ybaz.bits_OnesCount8 (x : Int) (w : World) (h0 : 0 ≤ x) (h1 : x ≤ 255) :
    Calls Ybaz.prog 95 #[.int .u8 x] w fun e w' => e = .returned (.int .i64 (Lib.onesCount x.toNat)) ∧ w' = w := Any.bits_OnesCount8 Ybaz.lays135 x w h0 h1
open Go.RowKit in
theorem Ybaz.Builder_Len_f (B b : Nat) (bs : List Value) (w : World) (h : Lib.IsBuilderF 138 5 B b bs w) :
    Calls Ybaz.prog 36 #[.pointer (some ⟨b, 0, none⟩)] w fun e w' => e = .returned (.int .i64 bs.length) ∧ w' = w := Any.Builder_Len_f Ybaz.lays170 B b bs w h
open Go.RowKit in
theorem Ybaz.Builder_String_f (B b : Nat) (l : List UInt8) (w : World) (h : Lib.IsBuilderF 138 5 B b (Lib.byteCells l) w) (h0 : l ≠ []) :
    Calls Ybaz.prog 37 #[.pointer (some ⟨b, 0, none⟩)] w fun e w' => e = .returned (.string ⟨l.toArray⟩) ∧ (Lib.IsBuilderF 138 5 B b (Lib.byteCells l) w' ∧ Below B w w') := Any.Builder_String_f Ybaz.lays169 Ybaz.Builder_Extra_169 B b l w h h0
open Go.RowKit in
theorem Ybaz.Builder_String_empty_f (B b : Nat) (w : World) (h : Lib.IsBuilderF 138 5 B b [] w) (hBw : B ≤ w.heap.size) :
    Calls Ybaz.prog 37 #[.pointer (some ⟨b, 0, none⟩)] w fun e w' => e = .returned (.string ⟨#[]⟩) ∧ (Lib.IsBuilderF 138 5 B b [] w' ∧ Below B w w') := Any.Builder_String_empty_f Ybaz.lays169 Ybaz.Builder_Extra_169 B b w h hBw
open Go.RowKit in
theorem Ybaz.Builder_String_any_f (B b : Nat) (l : List UInt8) (w : World) (h : Lib.IsBuilderF 138 5 B b (Lib.byteCells l) w) (hBw : B ≤ w.heap.size) :
    Calls Ybaz.prog 37 #[.pointer (some ⟨b, 0, none⟩)] w fun e w' => e = .returned (.string ⟨l.toArray⟩) ∧ (Lib.IsBuilderF 138 5 B b (Lib.byteCells l) w' ∧ Below B w w') := Any.Builder_String_any_f Ybaz.lays169 Ybaz.Builder_Extra_169 B b l w h hBw
open Go.RowKit in
theorem Ybaz.Builder_grow_fresh_cap (B b n : Nat) (w : World) (hB : B ≤ b) (hbk : w.heap[b]? = some (.cells #[.pointer (some ⟨b, 0, none⟩), .slice none 0 0] 138 (0, 0))) (hBw : B ≤ w.heap.size) (hn : n ≤ 281474976710656) :
    Calls Ybaz.prog 67 #[.pointer (some ⟨b, 0, none⟩), .int .i64 n] w fun e w' => e = .returned (.tuple #[]) ∧ (Lib.BuilderAt 138 5 B b (.pointer (some ⟨b, 0, none⟩)) [] w' ∧ Below B w w') ∧ ∃ p cap, w'.cell? ⟨b, 1, none⟩ = some (.slice p 0 cap) ∧ n ≤ cap := Any.Builder_grow_fresh_cap Ybaz.lays241 Ybaz.Builder_Extra_241 B b n w hB hbk hBw hn
open Go.RowKit in
theorem Ybaz.Builder_Grow_fresh_cap (B b n : Nat) (w : World) (hB : B ≤ b) (hbk : w.heap[b]? = some (.cells #[.pointer none, .slice none 0 0] 138 (0, 0))) (hBw : B ≤ w.heap.size) (hn : n ≤ 281474976710656) :
    Calls Ybaz.prog 34 #[.pointer (some ⟨b, 0, none⟩), .int .i64 n] w fun e w' => e = .returned (.tuple #[]) ∧ (Lib.BuilderAt 138 5 B b (.pointer (some ⟨b, 0, none⟩)) [] w' ∧ Below B w w') ∧ ∃ p cap, w'.cell? ⟨b, 1, none⟩ = some (.slice p 0 cap) ∧ n ≤ cap := Any.Builder_Grow_fresh_cap Ybaz.lays165 Ybaz.Builder_Extra_165 B b n w hB hbk hBw hn
def Ybaz.lays129_ren : Go.Shelf.Ren := ⟨fun | 129 => 112 | n => n, fun | 53 => 36 | 3 => 3 | 4 => 4 | 46 => 107 | 5 => 5 | 9 => 9 | n => n, fun | n => n⟩
theorem Ybaz.lays129 : Go.Proofs.Lays.n129 Ybaz.prog Ybaz.lays129_ren := {
  mixed := by kernel_rfl
  f129 := Ybaz.func112.trans (congrArg some (by kernel_rfl))
  t3 := Ybaz.underlying3
  a3 := Ybaz.isAgg3
  z3 := Ybaz.sizeOf3
  v3 := Ybaz.zeroValue3
  t4 := Ybaz.underlying4
  a4 := Ybaz.isAgg4
  z4 := Ybaz.sizeOf4
  v4 := Ybaz.zeroValue4
  t5 := Ybaz.underlying5
  a5 := Ybaz.isAgg5
  z5 := Ybaz.sizeOf5
  v5 := Ybaz.zeroValue5
  t9 := Ybaz.underlying9
  a9 := Ybaz.isAgg9
  z9 := Ybaz.sizeOf9
  v9 := Ybaz.zeroValue9
  t46 := Ybaz.underlying107
  a46 := Ybaz.isAgg107
  z46 := Ybaz.sizeOf107
  v46 := Ybaz.zeroValue107
  t53 := Ybaz.underlying36
  a53 := Ybaz.isAgg36
  z53 := Ybaz.sizeOf36
  v53 := Ybaz.zeroValue36 }
theorem Ybaz.bits_Len64 (x : Int) (w : World) (h0 : 0 ≤ x) (h1 : x ≤ 18446744073709551615) :
    Calls Ybaz.prog 112 #[.int .u64 x] w fun e w' => e = .returned (.int .i64 (Lib.bitLen x.toNat)) ∧ w' = w := Any.bits_Len64 Ybaz.lays129 x w h0 h1
def Ybaz.laysBin47_ren : Go.Shelf.Ren := ⟨fun | 47 => 9 | n => n, fun | 22 => 23 | 33 => 36 | 4 => 4 | 5 => 5 | 45 => 107 | n => n, fun | n => n⟩
theorem Ybaz.laysBin47 : Go.Proofs.LaysBin.n47 Ybaz.prog Ybaz.laysBin47_ren := {
  mixed := by kernel_rfl
  f47 := Ybaz.func9.trans (congrArg some (by kernel_rfl))
  t4 := Ybaz.underlying4
  a4 := Ybaz.isAgg4
  z4 := Ybaz.sizeOf4
  v4 := Ybaz.zeroValue4
  i4 := by kernel_rfl
  t5 := Ybaz.underlying5
  a5 := Ybaz.isAgg5
  z5 := Ybaz.sizeOf5
  v5 := Ybaz.zeroValue5
  i5 := by kernel_rfl
  t22 := Ybaz.underlying23
  a22 := Ybaz.isAgg23
  z22 := Ybaz.sizeOf23
  v22 := Ybaz.zeroValue23
  i22 := by kernel_rfl
  t33 := Ybaz.underlying36
  a33 := Ybaz.isAgg36
  z33 := Ybaz.sizeOf36
  v33 := Ybaz.zeroValue36
  i33 := by kernel_rfl
  t45 := Ybaz.underlying107
  a45 := Ybaz.isAgg107
  z45 := Ybaz.sizeOf107
  v45 := Ybaz.zeroValue107
  i45 := by kernel_rfl }
open Go.RowKit in
theorem Ybaz.binary_AppendUvarint (B n x : Nat) (hx : x < 18446744073709551616) (sv : Value) (xs : List Value) (w : World) (hown : w.ownsRow B 5 1 sv n xs) (hBw : B ≤ w.heap.size) (hlim : n + 10 ≤ 140737488355328) :
    Calls Ybaz.prog 9 #[sv, .int .u64 x] w fun e w' => ∃ v', e = .returned v' ∧ w'.ownsRow B 5 1 v' (n + (Lib.uvarint x).length) (xs ++ Lib.byteCells (Lib.uvarint x)) ∧ Below B w w' := Any.binary_AppendUvarint Ybaz.laysBin47 B n x hx sv xs w hown hBw hlim
def Ybaz.laysBin45_ren : Go.Shelf.Ren := ⟨fun | 45 => 93 | n => n, fun | 22 => 23 | 33 => 36 | 3 => 3 | 45 => 107 | 0 => 0 | 5 => 5 | 4 => 4 | n => n, fun | n => n⟩
theorem Ybaz.laysBin45 : Go.Proofs.LaysBin.n45 Ybaz.prog Ybaz.laysBin45_ren := {
  mixed := by kernel_rfl
  f45 := Ybaz.func93.trans (congrArg some (by kernel_rfl))
  t0 := Ybaz.underlying0
  a0 := Ybaz.isAgg0
  z0 := Ybaz.sizeOf0
  v0 := Ybaz.zeroValue0
  i0 := by kernel_rfl
  t3 := Ybaz.underlying3
  a3 := Ybaz.isAgg3
  z3 := Ybaz.sizeOf3
  v3 := Ybaz.zeroValue3
  i3 := by kernel_rfl
  t4 := Ybaz.underlying4
  a4 := Ybaz.isAgg4
  z4 := Ybaz.sizeOf4
  v4 := Ybaz.zeroValue4
  i4 := by kernel_rfl
  t5 := Ybaz.underlying5
  a5 := Ybaz.isAgg5
  z5 := Ybaz.sizeOf5
  v5 := Ybaz.zeroValue5
  i5 := by kernel_rfl
  t22 := Ybaz.underlying23
  a22 := Ybaz.isAgg23
  z22 := Ybaz.sizeOf23
  v22 := Ybaz.zeroValue23
  i22 := by kernel_rfl
  t33 := Ybaz.underlying36
  a33 := Ybaz.isAgg36
  z33 := Ybaz.sizeOf36
  v33 := Ybaz.zeroValue36
  i33 := by kernel_rfl
  t45 := Ybaz.underlying107
  a45 := Ybaz.isAgg107
  z45 := Ybaz.sizeOf107
  v45 := Ybaz.zeroValue107
  i45 := by kernel_rfl }
open Go.RowKit in
theorem Ybaz.binary_Uvarint (g o n c : Nat) (l : List UInt8) (w : World) (hl : l.length = n) (hcell : ∀ j (hj : j < l.length), w.cell? ⟨g, o + j, none⟩ = some (.int .u8 (l[j]).toNat)) :
    Calls Ybaz.prog 93 #[.slice (some ⟨g, o, none⟩) n c] w fun e w' => e = .returned (.tuple #[.int .u64 (Lib.uvarintDec l).1, .int .i64 (Lib.uvarintDec l).2]) ∧ w' = w := Any.binary_Uvarint Ybaz.laysBin45 g o n c l w hl hcell
open Go.RowKit in
theorem Ybaz.binary_Uvarint_empty (ao : Option Addr) (c : Nat) (w : World) :
    Calls Ybaz.prog 93 #[.slice ao 0 c] w fun e w' => e = .returned (.tuple #[.int .u64 (Lib.uvarintDec []).1, .int .i64 (Lib.uvarintDec []).2]) ∧ w' = w := Any.binary_Uvarint_empty Ybaz.laysBin45 ao c w
def Ybaz.lays190_ren : Go.Shelf.Ren := ⟨fun | 190 => 57 | 125 => 89 | 258 => 88 | 128 => 111 | 129 => 112 | 302 => 103 | 303 => 104 | 304 => 105 | 305 => 106 | 306 => 107 | 307 => 108 | 308 => 86 | 309 => 109 | 310 => 110 | 333 => 116 | 329 => 117 | 330 => 118 | 334 => 119 | 335 => 120 | 336 => 102 | 344 => 123 | n => n, fun | 31 => 56 | 9 => 9 | 3 => 3 | 46 => 107 | 0 => 0 | 51 => 174 | 53 => 36 | 4 => 4 | 183 => 212 | 182 => 211 | 131 => 153 | 5 => 5 | 218 => 222 | 222 => 226 | 228 => 230 | 229 => 185 | n => n, fun | n => n⟩
theorem Ybaz.lays190 : Go.Proofs.Lays.n190 Ybaz.prog Ybaz.lays190_ren := {
  mixed := by kernel_rfl
  f125 := Ybaz.func89.trans (congrArg some (by kernel_rfl))
  f128 := Ybaz.func111.trans (congrArg some (by kernel_rfl))
  f129 := Ybaz.func112.trans (congrArg some (by kernel_rfl))
  f190 := Ybaz.func57.trans (congrArg some (by kernel_rfl))
  f258 := Ybaz.func88.trans (congrArg some (by kernel_rfl))
  f302 := Ybaz.func103.trans (congrArg some (by kernel_rfl))
  f303 := Ybaz.func104.trans (congrArg some (by kernel_rfl))
  f304 := Ybaz.func105.trans (congrArg some (by kernel_rfl))
  f305 := Ybaz.func106.trans (congrArg some (by kernel_rfl))
  f306 := Ybaz.func107.trans (congrArg some (by kernel_rfl))
  f307 := Ybaz.func108.trans (congrArg some (by kernel_rfl))
  f308 := Ybaz.func86.trans (congrArg some (by kernel_rfl))
  f309 := Ybaz.func109.trans (congrArg some (by kernel_rfl))
  f310 := Ybaz.func110.trans (congrArg some (by kernel_rfl))
  f329 := Ybaz.func117.trans (congrArg some (by kernel_rfl))
  f330 := Ybaz.func118.trans (congrArg some (by kernel_rfl))
  f333 := Ybaz.func116.trans (congrArg some (by kernel_rfl))
  f334 := Ybaz.func119.trans (congrArg some (by kernel_rfl))
  f335 := Ybaz.func120.trans (congrArg some (by kernel_rfl))
  f336 := Ybaz.func102.trans (congrArg some (by kernel_rfl))
  f344 := Ybaz.func123.trans (congrArg some (by kernel_rfl))
  t0 := Ybaz.underlying0
  a0 := Ybaz.isAgg0
  z0 := Ybaz.sizeOf0
  v0 := Ybaz.zeroValue0
  t3 := Ybaz.underlying3
  a3 := Ybaz.isAgg3
  z3 := Ybaz.sizeOf3
  v3 := Ybaz.zeroValue3
  t4 := Ybaz.underlying4
  a4 := Ybaz.isAgg4
  z4 := Ybaz.sizeOf4
  v4 := Ybaz.zeroValue4
  t5 := Ybaz.underlying5
  a5 := Ybaz.isAgg5
  z5 := Ybaz.sizeOf5
  v5 := Ybaz.zeroValue5
  t9 := Ybaz.underlying9
  a9 := Ybaz.isAgg9
  z9 := Ybaz.sizeOf9
  v9 := Ybaz.zeroValue9
  t31 := Ybaz.underlying56
  a31 := Ybaz.isAgg56
  z31 := Ybaz.sizeOf56
  v31 := Ybaz.zeroValue56
  t46 := Ybaz.underlying107
  a46 := Ybaz.isAgg107
  z46 := Ybaz.sizeOf107
  v46 := Ybaz.zeroValue107
  t51 := Ybaz.underlying174
  a51 := Ybaz.isAgg174
  z51 := Ybaz.sizeOf174
  v51 := Ybaz.zeroValue174
  t53 := Ybaz.underlying36
  a53 := Ybaz.isAgg36
  z53 := Ybaz.sizeOf36
  v53 := Ybaz.zeroValue36
  t131 := Ybaz.underlying153
  a131 := Ybaz.isAgg153
  z131 := Ybaz.sizeOf153
  v131 := Ybaz.zeroValue153
  t182 := Ybaz.underlying211
  a182 := Ybaz.isAgg211
  z182 := Ybaz.sizeOf211
  v182 := Ybaz.zeroValue211
  t183 := Ybaz.underlying212
  a183 := Ybaz.isAgg212
  z183 := Ybaz.sizeOf212
  v183 := Ybaz.zeroValue212
  t218 := Ybaz.underlying222
  a218 := Ybaz.isAgg222
  z218 := Ybaz.sizeOf222
  v218 := Ybaz.zeroValue222
  t222 := Ybaz.underlying226
  a222 := Ybaz.isAgg226
  z222 := Ybaz.sizeOf226
  v222 := Ybaz.zeroValue226
  t228 := Ybaz.underlying230
  a228 := Ybaz.isAgg230
  z228 := Ybaz.sizeOf230
  v228 := Ybaz.zeroValue230
  t229 := Ybaz.underlying185
  a229 := Ybaz.isAgg185
  z229 := Ybaz.sizeOf185
  v229 := Ybaz.zeroValue185 }
open Go.Sort Go.RowKit in
theorem Ybaz.slices_Sort_string (blk off cap : Nat) (ss : List (List UInt8)) (w : World) (hH : Holds encStr w blk off ss.toArray) (hblk : blk < w.heap.size) (hsz : ss.length < 4611686018427387904) :
    Calls Ybaz.prog 57 #[.slice (some ⟨blk, off, none⟩) ss.length cap] w fun e w' =>
      e = .returned (.tuple #[]) ∧ ∃ n os, w' = grow (putRow encStr (Sort.ahead w n) blk off (ss.mergeSort fun x y => decide (x ≤ y)).toArray) os := Any.slices_Sort_string Ybaz.lays190 blk off cap ss w hH hblk hsz
open Go.RowKit in
theorem Ybaz.binary_AppendUvarint_arg (W0 : World) (ao : Option Addr) (b off len cap : Nat) (olds : List Value) (hc : Came W0 1 ao b off len cap olds) (x : Nat) (hx : x < 18446744073709551616) (sv : Value) (m : Nat) (ks : List Value) (w : World) (honto : Onto W0 5 1 ao b off len cap olds w sv m ks) (hlim : len + m + 10 ≤ 140737488355328) :
    Calls Ybaz.prog 9 #[sv, .int .u64 x] w fun e w' => ∃ v', e = .returned v' ∧ Onto W0 5 1 ao b off len cap olds w' v' (m + (Lib.uvarint x).length) (ks ++ Lib.byteCells (Lib.uvarint x)) := Any.binary_AppendUvarint_arg Ybaz.laysBin47 W0 ao b off len cap olds hc x hx sv m ks w honto hlim
def Ybaz.lays206_ren : Go.Shelf.Ren := ⟨fun | 206 => 65 | n => n, fun | 9 => 9 | 4 => 4 | 3 => 3 | n => n, fun | n => n⟩
theorem Ybaz.lays206 : Go.Proofs.Lays.n206 Ybaz.prog Ybaz.lays206_ren := {
  mixed := by kernel_rfl
  f206 := Ybaz.func65.trans (congrArg some (by kernel_rfl))
  t3 := Ybaz.underlying3
  a3 := Ybaz.isAgg3
  z3 := Ybaz.sizeOf3
  v3 := Ybaz.zeroValue3
  t4 := Ybaz.underlying4
  a4 := Ybaz.isAgg4
  z4 := Ybaz.sizeOf4
  v4 := Ybaz.zeroValue4
  t9 := Ybaz.underlying9
  a9 := Ybaz.isAgg9
  z9 := Ybaz.sizeOf9
  v9 := Ybaz.zeroValue9 }
open Go.RowKit Go.Lib in
theorem Ybaz.stringslite_HasPrefix (s p : ByteArray) (w : World) :
    Calls Ybaz.prog 65 #[.string s, .string p] w fun e w' => e = .returned (.bool (Lib.hasPrefix s.data.toList p.data.toList)) ∧ w' = w := Any.stringslite_HasPrefix Ybaz.lays206 s p w
def Ybaz.lays99_ren : Go.Shelf.Ren := ⟨fun | 99 => 33 | 206 => 65 | n => n, fun | 9 => 9 | 4 => 4 | 3 => 3 | n => n, fun | n => n⟩
theorem Ybaz.lays99 : Go.Proofs.Lays.n99 Ybaz.prog Ybaz.lays99_ren := {
  mixed := by kernel_rfl
  f99 := Ybaz.func33.trans (congrArg some (by kernel_rfl))
  f206 := Ybaz.func65.trans (congrArg some (by kernel_rfl))
  t3 := Ybaz.underlying3
  a3 := Ybaz.isAgg3
  z3 := Ybaz.sizeOf3
  v3 := Ybaz.zeroValue3
  t4 := Ybaz.underlying4
  a4 := Ybaz.isAgg4
  z4 := Ybaz.sizeOf4
  v4 := Ybaz.zeroValue4
  t9 := Ybaz.underlying9
  a9 := Ybaz.isAgg9
  z9 := Ybaz.sizeOf9
  v9 := Ybaz.zeroValue9 }
open Go.RowKit Go.Lib in
theorem Ybaz.strings_HasPrefix (s p : ByteArray) (w : World) :
    Calls Ybaz.prog 33 #[.string s, .string p] w fun e w' => e = .returned (.bool (Lib.hasPrefix s.data.toList p.data.toList)) ∧ w' = w := Any.strings_HasPrefix Ybaz.lays99 s p w
def Ybaz.lays264_ren : Go.Shelf.Ren := ⟨fun | 264 => 64 | n => n, fun | 53 => 36 | 46 => 107 | n => n, fun | n => n⟩
theorem Ybaz.lays264 : Go.Proofs.Lays.n264 Ybaz.prog Ybaz.lays264_ren := {
  mixed := by kernel_rfl
  f264 := Ybaz.func64.trans (congrArg some (by kernel_rfl))
  t46 := Ybaz.underlying107
  a46 := Ybaz.isAgg107
  z46 := Ybaz.sizeOf107
  v46 := Ybaz.zeroValue107
  t53 := Ybaz.underlying36
  a53 := Ybaz.isAgg36
  z53 := Ybaz.sizeOf36
  v53 := Ybaz.zeroValue36 }
open Go.RowKit Go.Lib in
theorem Ybaz.bits_Mul64 (x y : Nat) (hx : x < 18446744073709551616) (hy : y < 18446744073709551616) (w : World) :
    Calls Ybaz.prog 64 #[.int .u64 x, .int .u64 y] w fun e w' => e = .returned (.tuple #[.int .u64 ((x * y / 18446744073709551616 : Nat) : Int), .int .u64 ((x * y % 18446744073709551616 : Nat) : Int)]) ∧ w' = w := Any.bits_Mul64 Ybaz.lays264 x y hx hy w
def Ybaz.lays212_ren : Go.Shelf.Ren := ⟨fun | 212 => 32 | 263 => 63 | 264 => 64 | n => n, fun | 46 => 107 | 51 => 174 | 146 => 175 | 53 => 36 | 148 => 177 | n => n, fun | n => n⟩
theorem Ybaz.lays212 : Go.Proofs.Lays.n212 Ybaz.prog Ybaz.lays212_ren := {
  mixed := by kernel_rfl
  f212 := Ybaz.func32.trans (congrArg some (by kernel_rfl))
  f263 := Ybaz.func63.trans (congrArg some (by kernel_rfl))
  f264 := Ybaz.func64.trans (congrArg some (by kernel_rfl))
  t46 := Ybaz.underlying107
  a46 := Ybaz.isAgg107
  z46 := Ybaz.sizeOf107
  v46 := Ybaz.zeroValue107
  t51 := Ybaz.underlying174
  a51 := Ybaz.isAgg174
  z51 := Ybaz.sizeOf174
  v51 := Ybaz.zeroValue174
  t53 := Ybaz.underlying36
  a53 := Ybaz.isAgg36
  z53 := Ybaz.sizeOf36
  v53 := Ybaz.zeroValue36
  t146 := Ybaz.underlying175
  a146 := Ybaz.isAgg175
  z146 := Ybaz.sizeOf175
  v146 := Ybaz.zeroValue175
  t148 := Ybaz.underlying177
  a148 := Ybaz.isAgg177
  z148 := Ybaz.sizeOf177
  v148 := Ybaz.zeroValue177 }
open Go.RowKit Go.Lib in
theorem Ybaz.bits_Mul (x y : Nat) (hx : x < 18446744073709551616) (hy : y < 18446744073709551616) (w : World) :
    Calls Ybaz.prog 32 #[.int .u64 x, .int .u64 y] w fun e w' => e = .returned (.tuple #[.int .u64 ((x * y / 18446744073709551616 : Nat) : Int), .int .u64 ((x * y % 18446744073709551616 : Nat) : Int)]) ∧ w' = w := Any.bits_Mul Ybaz.lays212 x y hx hy w
def Ybaz.lays105_ren : Go.Shelf.Ren := ⟨fun | 105 => 15 | 212 => 32 | 99 => 33 | 165 => 34 | 166 => 35 | 170 => 36 | 169 => 37 | 263 => 63 | 264 => 64 | 206 => 65 | 240 => 66 | 241 => 67 | 276 => 91 | 277 => 92 | n => n, fun | 9 => 9 | 3 => 3 | 4 => 4 | 20 => 20 | 0 => 0 | 46 => 107 | 109 => 133 | 5 => 5 | 72 => 138 | 76 => 139 | 51 => 174 | 146 => 175 | 53 => 36 | 148 => 177 | 70 => 136 | 37 => 23 | 75 => 41 | 127 => 179 | 164 => 200 | 80 => 141 | n => n, fun | n => n⟩
theorem Ybaz.lays105 : Go.Proofs.Lays.n105 Ybaz.prog Ybaz.lays105_ren := {
  mixed := by kernel_rfl
  f99 := Ybaz.func33.trans (congrArg some (by kernel_rfl))
  f105 := Ybaz.func15.trans (congrArg some (by kernel_rfl))
  f165 := Ybaz.func34.trans (congrArg some (by kernel_rfl))
  f166 := Ybaz.func35.trans (congrArg some (by kernel_rfl))
  f169 := Ybaz.func37.trans (congrArg some (by kernel_rfl))
  f170 := Ybaz.func36.trans (congrArg some (by kernel_rfl))
  f206 := Ybaz.func65.trans (congrArg some (by kernel_rfl))
  f212 := Ybaz.func32.trans (congrArg some (by kernel_rfl))
  f240 := Ybaz.func66.trans (congrArg some (by kernel_rfl))
  f241 := Ybaz.func67.trans (congrArg some (by kernel_rfl))
  f263 := Ybaz.func63.trans (congrArg some (by kernel_rfl))
  f264 := Ybaz.func64.trans (congrArg some (by kernel_rfl))
  f276 := Ybaz.func91.trans (congrArg some (by kernel_rfl))
  f277 := Ybaz.func92.trans (congrArg some (by kernel_rfl))
  t0 := Ybaz.underlying0
  a0 := Ybaz.isAgg0
  z0 := Ybaz.sizeOf0
  v0 := Ybaz.zeroValue0
  t3 := Ybaz.underlying3
  a3 := Ybaz.isAgg3
  z3 := Ybaz.sizeOf3
  v3 := Ybaz.zeroValue3
  t4 := Ybaz.underlying4
  a4 := Ybaz.isAgg4
  z4 := Ybaz.sizeOf4
  v4 := Ybaz.zeroValue4
  t5 := Ybaz.underlying5
  a5 := Ybaz.isAgg5
  z5 := Ybaz.sizeOf5
  v5 := Ybaz.zeroValue5
  t9 := Ybaz.underlying9
  a9 := Ybaz.isAgg9
  z9 := Ybaz.sizeOf9
  v9 := Ybaz.zeroValue9
  t20 := Ybaz.underlying20
  a20 := Ybaz.isAgg20
  z20 := Ybaz.sizeOf20
  v20 := Ybaz.zeroValue20
  t37 := Ybaz.underlying23
  a37 := Ybaz.isAgg23
  z37 := Ybaz.sizeOf23
  v37 := Ybaz.zeroValue23
  t46 := Ybaz.underlying107
  a46 := Ybaz.isAgg107
  z46 := Ybaz.sizeOf107
  v46 := Ybaz.zeroValue107
  t51 := Ybaz.underlying174
  a51 := Ybaz.isAgg174
  z51 := Ybaz.sizeOf174
  v51 := Ybaz.zeroValue174
  t53 := Ybaz.underlying36
  a53 := Ybaz.isAgg36
  z53 := Ybaz.sizeOf36
  v53 := Ybaz.zeroValue36
  t70 := Ybaz.underlying136
  a70 := Ybaz.isAgg136
  z70 := Ybaz.sizeOf136
  v70 := Ybaz.zeroValue136
  t72 := Ybaz.underlying138
  a72 := Ybaz.isAgg138
  z72 := Ybaz.sizeOf138
  v72 := Ybaz.zeroValue138
  t75 := Ybaz.underlying41
  a75 := Ybaz.isAgg41
  z75 := Ybaz.sizeOf41
  v75 := Ybaz.zeroValue41
  t76 := Ybaz.underlying139
  a76 := Ybaz.isAgg139
  z76 := Ybaz.sizeOf139
  v76 := Ybaz.zeroValue139
  t109 := Ybaz.underlying133
  a109 := Ybaz.isAgg133
  z109 := Ybaz.sizeOf133
  v109 := Ybaz.zeroValue133
  t127 := Ybaz.underlying179
  a127 := Ybaz.isAgg179
  z127 := Ybaz.sizeOf179
  v127 := Ybaz.zeroValue179
  t146 := Ybaz.underlying175
  a146 := Ybaz.isAgg175
  z146 := Ybaz.sizeOf175
  v146 := Ybaz.zeroValue175
  t148 := Ybaz.underlying177
  a148 := Ybaz.isAgg177
  z148 := Ybaz.sizeOf177
  v148 := Ybaz.zeroValue177
  t164 := Ybaz.underlying200
  a164 := Ybaz.isAgg200
  z164 := Ybaz.sizeOf200
  v164 := Ybaz.zeroValue200 }
theorem Ybaz.Builder_Extra_105 : Builder.Extra Ybaz.prog Ybaz.lays105_ren := {
  sizeBuilder := by kernel_rfl
  liesBuilder := by kernel_rfl
  t5 := Ybaz.underlying5
  a5 := Ybaz.isAgg5
  z5 := Ybaz.sizeOf5
  v5 := Ybaz.zeroValue5
  infoByte := by kernel_rfl
  cellsByte := by kernel_rfl
  sizeByte := by kernel_rfl
  neB5 := by decide }
open Go.RowKit Go.Lib in
theorem Ybaz.strings_Repeat_main (s : ByteArray) (c : Nat) (w : World) (hc2 : 2 ≤ c) (hc : c ≤ 9223372036854775807) (hlen : s.size * c ≤ 140737488355328) (h0 : 0 < s.size) :
    Calls Ybaz.prog 15 #[.string s, .int .i64 c] w fun e w' => e = .returned (.string ⟨(Lib.repeatL s.data.toList c).toArray⟩) ∧ Below w.heap.size w w' := Any.strings_Repeat_main Ybaz.lays105 Ybaz.Builder_Extra_105 s c w hc2 hc hlen h0
open Go.RowKit Go.Lib in
theorem Ybaz.strings_Repeat_zero (s : ByteArray) (w : World) :
    Calls Ybaz.prog 15 #[.string s, .int .i64 0] w fun e w' => e = .returned (.string ⟨#[]⟩) ∧ w' = w := Any.strings_Repeat_zero Ybaz.lays105 s w
open Go.RowKit Go.Lib in
theorem Ybaz.strings_Repeat_one (s : ByteArray) (w : World) :
    Calls Ybaz.prog 15 #[.string s, .int .i64 1] w fun e w' => e = .returned (.string s) ∧ w' = w := Any.strings_Repeat_one Ybaz.lays105 s w
open Go.RowKit Go.Lib in
theorem Ybaz.strings_Repeat_empty (s : ByteArray) (c : Nat) (w : World) (hc2 : 2 ≤ c) (hc : c ≤ 9223372036854775807) (h0 : s.size = 0) :
    Calls Ybaz.prog 15 #[.string s, .int .i64 c] w fun e w' => e = .returned (.string ⟨#[]⟩) ∧ w' = w := Any.strings_Repeat_empty Ybaz.lays105 s c w hc2 hc h0
open Go.RowKit Go.Lib in
theorem Ybaz.strings_Repeat_negative (s : ByteArray) (c : Int) (w : World) (hc : c < 0) :
    Calls Ybaz.prog 15 #[.string s, .int .i64 c] w fun e w' => e = .panicked [{ v := repeatPanic Ybaz.lays105_ren "strings: negative Repeat count", recovered := false }] ∧ w' = w := Any.strings_Repeat_negative Ybaz.lays105 s c w hc
open Go.RowKit Go.Lib in
theorem Ybaz.strings_Repeat_overflow (s : ByteArray) (c : Nat) (w : World) (hc : c ≤ 9223372036854775807) (hs : s.size ≤ 9223372036854775807) (hbig : 9223372036854775807 < s.size * c) :
    Calls Ybaz.prog 15 #[.string s, .int .i64 c] w fun e w' => e = .panicked [{ v := repeatPanic Ybaz.lays105_ren "strings: Repeat output length overflow", recovered := false }] ∧ w' = w := Any.strings_Repeat_overflow Ybaz.lays105 s c w hc hs hbig
open Go.RowKit Go.Lib in
theorem Ybaz.strings_Repeat (s : ByteArray) (c : Nat) (w : World) (hc : c ≤ 9223372036854775807) (hlen : s.size * c ≤ 140737488355328) :
    Calls Ybaz.prog 15 #[.string s, .int .i64 c] w fun e w' => e = .returned (.string ⟨(Lib.repeatL s.data.toList c).toArray⟩) ∧ Below w.heap.size w w' := Any.strings_Repeat Ybaz.lays105 Ybaz.Builder_Extra_105 s c w hc hlen
def Ybaz.lays113_ren : Go.Shelf.Ren := ⟨fun | 113 => 40 | n => n, fun | 28 => 27 | 3 => 3 | 4 => 4 | 9 => 9 | 20 => 20 | 0 => 0 | n => n, fun | n => n⟩
theorem Ybaz.lays113 : Go.Proofs.Lays.n113 Ybaz.prog Ybaz.lays113_ren := {
  mixed := by kernel_rfl
  f113 := Ybaz.func40.trans (congrArg some (by kernel_rfl))
  t0 := Ybaz.underlying0
  a0 := Ybaz.isAgg0
  z0 := Ybaz.sizeOf0
  v0 := Ybaz.zeroValue0
  t3 := Ybaz.underlying3
  a3 := Ybaz.isAgg3
  z3 := Ybaz.sizeOf3
  v3 := Ybaz.zeroValue3
  t4 := Ybaz.underlying4
  a4 := Ybaz.isAgg4
  z4 := Ybaz.sizeOf4
  v4 := Ybaz.zeroValue4
  t9 := Ybaz.underlying9
  a9 := Ybaz.isAgg9
  z9 := Ybaz.sizeOf9
  v9 := Ybaz.zeroValue9
  t20 := Ybaz.underlying20
  a20 := Ybaz.isAgg20
  z20 := Ybaz.sizeOf20
  v20 := Ybaz.zeroValue20
  t28 := Ybaz.underlying27
  a28 := Ybaz.isAgg27
  z28 := Ybaz.sizeOf27
  v28 := Ybaz.zeroValue27 }
open Go.Lib in
theorem Ybaz.slices_Max_int (b off n c : Nat) (zs : List Int) (w : World) (hn : 0 < n) (hz : n ≤ zs.length) (hbig : n ≤ 9223372036854775807) (hc : ∀ j, j < zs.length → w.cell? ⟨b, off + j, none⟩ = some (.int .i64 (zs.getD j 0))) :
    Calls Ybaz.prog 40 #[.slice (some ⟨b, off, none⟩) n c] w fun e w' => e = .returned (.int .i64 (Lib.maxOf (zs.take n))) ∧ w' = w := Any.slices_Max_int Ybaz.lays113 b off n c zs w hn hz hbig hc
def Ybaz.laysNm216_ren : Go.Shelf.Ren := ⟨fun | 16 => 56 | n => n, fun | 24 => 56 | 9 => 9 | 4 => 4 | n => n, fun | n => n⟩
theorem Ybaz.laysNm216 : Go.Proofs.Lays2.n16 Ybaz.prog Ybaz.laysNm216_ren := {
  mixed := by kernel_rfl
  f16 := Ybaz.func56.trans (congrArg some (by kernel_rfl))
  t4 := Ybaz.underlying4
  a4 := Ybaz.isAgg4
  z4 := Ybaz.sizeOf4
  v4 := Ybaz.zeroValue4
  t9 := Ybaz.underlying9
  a9 := Ybaz.isAgg9
  z9 := Ybaz.sizeOf9
  v9 := Ybaz.zeroValue9
  t24 := Ybaz.underlying56
  a24 := Ybaz.isAgg56
  z24 := Ybaz.sizeOf56
  v24 := Ybaz.zeroValue56
  i9 := by kernel_rfl }
open Go.RowKit Go.Lib in
theorem Ybaz.slices_Clone_string (b off n c : Nat) (zs : List ByteArray) (w : World) (hz : n ≤ zs.length) (hbig : n * 16 ≤ 140737488355328) (hc : ∀ j, j < zs.length → w.cell? ⟨b, off + j, none⟩ = some (.string (zs.getD j ByteArray.empty))) :
    Calls Ybaz.prog 56 #[.slice (some ⟨b, off, none⟩) n c] w fun e w' => ∃ v', e = .returned v' ∧ w'.ownsRow w.heap.size 9 1 v' n ((zs.take n).map (Value.string)) ∧ v' ≠ .slice none 0 0 ∧ Below w.heap.size w w' := Any.slices_Clone_string Ybaz.laysNm216 b off n c zs w hz hbig hc
open Go.RowKit Go.Lib in
theorem Ybaz.slices_Clone_string_nil (n c : Nat) (w : World) :
    Calls Ybaz.prog 56 #[.slice none n c] w fun e w' => e = .returned (.slice none 0 0) ∧ w' = w := Any.slices_Clone_string_nil Ybaz.laysNm216 n c w
open Go.RowKit Go.Lib in
theorem Ybaz.slices_Clone_string_zero (a : Addr) (c : Nat) (w : World) :
    Calls Ybaz.prog 56 #[.slice (some a) 0 c] w fun e w' => ∃ v', e = .returned v' ∧ w'.ownsRow w.heap.size 9 1 v' 0 [] ∧ v' ≠ .slice none 0 0 ∧ Below w.heap.size w w' := Any.slices_Clone_string_zero Ybaz.laysNm216 a c w
def Ybaz.lays194_ren : Go.Shelf.Ren := ⟨fun | 194 => 58 | n => n, fun | 31 => 56 | 9 => 9 | 3 => 3 | 4 => 4 | 0 => 0 | n => n, fun | n => n⟩
theorem Ybaz.lays194 : Go.Proofs.Lays.n194 Ybaz.prog Ybaz.lays194_ren := {
  mixed := by kernel_rfl
  f194 := Ybaz.func58.trans (congrArg some (by kernel_rfl))
  t0 := Ybaz.underlying0
  a0 := Ybaz.isAgg0
  z0 := Ybaz.sizeOf0
  v0 := Ybaz.zeroValue0
  t3 := Ybaz.underlying3
  a3 := Ybaz.isAgg3
  z3 := Ybaz.sizeOf3
  v3 := Ybaz.zeroValue3
  t4 := Ybaz.underlying4
  a4 := Ybaz.isAgg4
  z4 := Ybaz.sizeOf4
  v4 := Ybaz.zeroValue4
  t9 := Ybaz.underlying9
  a9 := Ybaz.isAgg9
  z9 := Ybaz.sizeOf9
  v9 := Ybaz.zeroValue9
  t31 := Ybaz.underlying56
  a31 := Ybaz.isAgg56
  z31 := Ybaz.sizeOf56
  v31 := Ybaz.zeroValue56 }
open Go.RowKit Go.Lib Go.Sort in
theorem Ybaz.slices_Compact_string_arr (blk off cap : Nat) (d : Array (List UInt8)) (w : World) (hH : Holds encStr w blk off d) (hsz : d.size ≤ 9223372036854775807) (hcap : d.size ≤ cap) :
    Calls Ybaz.prog 58 #[.slice (some ⟨blk, off, none⟩) d.size cap] w fun e w' => e = .returned (.slice (some ⟨blk, off, none⟩) (compactUpTo d d.size).length cap) ∧ ∃ q, w' = putRow encStr (Sort.ahead w q) blk off (compactUpTo d d.size ++ List.replicate (d.size - (compactUpTo d d.size).length) []).toArray := Any.slices_Compact_string_arr Ybaz.lays194 blk off cap d w hH hsz hcap
open Go.RowKit Go.Lib Go.Sort in
theorem Ybaz.slices_Compact_string (blk off cap : Nat) (zs : List (List UInt8)) (w : World) (hH : Holds encStr w blk off zs.toArray) (hsz : zs.length ≤ 9223372036854775807) (hcap : zs.length ≤ cap) :
    Calls Ybaz.prog 58 #[.slice (some ⟨blk, off, none⟩) zs.length cap] w fun e w' => e = .returned (.slice (some ⟨blk, off, none⟩) (Lib.compact zs).length cap) ∧ ∃ q, w' = putRow encStr (Sort.ahead w q) blk off (Lib.compact zs ++ List.replicate (zs.length - (Lib.compact zs).length) []).toArray := Any.slices_Compact_string Ybaz.lays194 blk off cap zs w hH hsz hcap
open Go.RowKit Go.Lib Go.Sort in
theorem Ybaz.slices_Compact_string_empty (a : Option Addr) (cap : Nat) (w : World) :
    Calls Ybaz.prog 58 #[.slice a 0 cap] w fun e w' => e = .returned (.slice a 0 cap) ∧ w' = w := Any.slices_Compact_string_empty Ybaz.lays194 a cap w
def Ybaz.laysNm237_ren : Go.Shelf.Ren := ⟨fun | 37 => 14 | n => n, fun | 3 => 3 | 4 => 4 | n => n, fun | n => n⟩
theorem Ybaz.laysNm237 : Go.Proofs.Lays2.n37 Ybaz.prog Ybaz.laysNm237_ren := {
  mixed := by kernel_rfl
  f37 := Ybaz.func14.trans (congrArg some (by kernel_rfl))
  t3 := Ybaz.underlying3
  a3 := Ybaz.isAgg3
  z3 := Ybaz.sizeOf3
  v3 := Ybaz.zeroValue3
  t4 := Ybaz.underlying4
  a4 := Ybaz.isAgg4
  z4 := Ybaz.sizeOf4
  v4 := Ybaz.zeroValue4 }
open Go.RowKit Go.Lib in
theorem Ybaz.cmp_isNaN_int2 (x : Int) (w : World) :
    Calls Ybaz.prog 14 #[.int .i64 x] w fun e w' => e = .returned (.bool false) ∧ w' = w := Any.cmp_isNaN_int2 Ybaz.laysNm237 x w
open Go.RowKit Go.Lib Go.Sort in
theorem Ybaz.slices_Compact_string_cells (b off n c : Nat) (Sx : Nat → ByteArray) (w : World) (hbig : n ≤ 9223372036854775807) (hcap : n ≤ c) (hc : ∀ i, i < n → w.cell? ⟨b, off + i, none⟩ = some (.string (Sx i))) (hf : ∀ j, j < n → w.frozen? ⟨b, off + j, none⟩ = false) :
    Calls Ybaz.prog 58 #[.slice (some ⟨b, off, none⟩) n c] w fun e w' => e = .returned (.slice (some ⟨b, off, none⟩) (Lib.compact (Lib.strsOf Sx n)).length c) ∧ ∃ q, w' = (w.drewN q).setCells b off ((Lib.compact (Lib.strsOf Sx n) ++ List.replicate (n - (Lib.compact (Lib.strsOf Sx n)).length) []).map encStr) := Any.slices_Compact_string_cells Ybaz.lays194 b off n c Sx w hbig hcap hc hf
open Go.RowKit Go.Sort in
theorem Ybaz.slices_Sort_string_none (p : Option Addr) (cap : Nat) (w : World) :
    Calls Ybaz.prog 57 #[.slice p 0 cap] w fun e w' => e = .returned (.tuple #[]) ∧ w' = w := Any.slices_Sort_string_none Ybaz.lays190 p cap w
def Ybaz.laysSlE041_f56_ren : Go.Shelf.Ren := ⟨fun | 41 => 56 | n => n, fun | 22 => 56 | 23 => 9 | 4 => 4 | n => n, fun | n => n⟩
theorem Ybaz.laysSlE041_f56 : Go.Proofs.SlLaysE0.n41 Ybaz.prog Ybaz.laysSlE041_f56_ren := {
  mixed := by kernel_rfl
  f41 := ⟨Ybaz.f56.name, by decide, Ybaz.func56.trans (congrArg some (by kernel_rfl))⟩
  t4 := Ybaz.underlying4
  a4 := Ybaz.isAgg4
  z4 := Ybaz.sizeOf4
  v4 := Ybaz.zeroValue4
  t22 := Ybaz.underlying56
  a22 := Ybaz.isAgg56
  z22 := Ybaz.sizeOf56
  v22 := Ybaz.zeroValue56 }
open Go.RowKit Go.Lib in
theorem Ybaz.slices_Clone_f56 (i0 : TypeInfo) (z : Value) (size bytes : Nat) (hi : Ybaz.prog.info? 9 = some i0) (hz0 : i0.zero = some z) (hz1 : i0.size = size) (hz2 : i0.bytes = bytes) (hzs : z.cells.size = size) (hsz : 0 < size) (z23 : ∀ w, (Go.sizeOf 9).run Ybaz.prog w = .ok size w) (b off n c : Nat) (news : List Value) (w : World) (hl : news.length = n * size) (hn : n ≤ maxLen) (hbig : n * bytes ≤ 140737488355328) (hc : ∀ j u, news[j]? = some u → w.cell? ⟨b, off + j, none⟩ = some u) (h1 : ∀ u ∈ news, u.oneCell' = true) :
    Calls Ybaz.prog 56 #[.slice (some ⟨b, off, none⟩) n c] w fun e w' => ∃ v', e = .returned v' ∧ w'.ownsRow w.heap.size 9 size v' n news ∧ v' ≠ .slice none 0 0 ∧ Below w.heap.size w w' := AnyE.slices_Clone Ybaz.laysSlE041_f56 i0 z size bytes hi hz0 hz1 hz2 hzs hsz z23 b off n c news w hl hn hbig hc h1
def Ybaz.laysSlE041_f175_ren : Go.Shelf.Ren := ⟨fun | 41 => 175 | n => n, fun | 22 => 66 | 23 => 36 | 4 => 4 | n => n, fun | n => n⟩
theorem Ybaz.laysSlE041_f175 : Go.Proofs.SlLaysE0.n41 Ybaz.prog Ybaz.laysSlE041_f175_ren := {
  mixed := by kernel_rfl
  f41 := ⟨Ybaz.f175.name, by decide, Ybaz.func175.trans (congrArg some (by kernel_rfl))⟩
  t4 := Ybaz.underlying4
  a4 := Ybaz.isAgg4
  z4 := Ybaz.sizeOf4
  v4 := Ybaz.zeroValue4
  t22 := Ybaz.underlying66
  a22 := Ybaz.isAgg66
  z22 := Ybaz.sizeOf66
  v22 := Ybaz.zeroValue66 }
open Go.RowKit Go.Lib in
theorem Ybaz.slices_Clone_f175 (i0 : TypeInfo) (z : Value) (size bytes : Nat) (hi : Ybaz.prog.info? 36 = some i0) (hz0 : i0.zero = some z) (hz1 : i0.size = size) (hz2 : i0.bytes = bytes) (hzs : z.cells.size = size) (hsz : 0 < size) (z23 : ∀ w, (Go.sizeOf 36).run Ybaz.prog w = .ok size w) (b off n c : Nat) (news : List Value) (w : World) (hl : news.length = n * size) (hn : n ≤ maxLen) (hbig : n * bytes ≤ 140737488355328) (hc : ∀ j u, news[j]? = some u → w.cell? ⟨b, off + j, none⟩ = some u) (h1 : ∀ u ∈ news, u.oneCell' = true) :
    Calls Ybaz.prog 175 #[.slice (some ⟨b, off, none⟩) n c] w fun e w' => ∃ v', e = .returned v' ∧ w'.ownsRow w.heap.size 36 size v' n news ∧ v' ≠ .slice none 0 0 ∧ Below w.heap.size w w' := AnyE.slices_Clone Ybaz.laysSlE041_f175 i0 z size bytes hi hz0 hz1 hz2 hzs hsz z23 b off n c news w hl hn hbig hc h1
open Go.RowKit Go.Lib in
theorem Ybaz.slices_Clone_nil_f56 (n c : Nat) (w : World) :
    Calls Ybaz.prog 56 #[.slice none n c] w fun e w' => e = .returned (.slice none 0 0) ∧ w' = w := AnyE.slices_Clone_nil Ybaz.laysSlE041_f56 n c w
open Go.RowKit Go.Lib in
theorem Ybaz.slices_Clone_nil_f175 (n c : Nat) (w : World) :
    Calls Ybaz.prog 175 #[.slice none n c] w fun e w' => e = .returned (.slice none 0 0) ∧ w' = w := AnyE.slices_Clone_nil Ybaz.laysSlE041_f175 n c w
def Ybaz.laysSlH6_f85_ren : Go.Shelf.Ren := ⟨fun | 6 => 85 | n => n, fun | 22 => 56 | 23 => 9 | 25 => 168 | 3 => 3 | 0 => 0 | 4 => 4 | n => n, fun | n => n⟩
theorem Ybaz.laysSlH6_f85 : Go.Proofs.SlLaysH.n6 Ybaz.prog Ybaz.laysSlH6_f85_ren := {
  mixed := by kernel_rfl
  f6 := ⟨Ybaz.f85.name, by decide, Ybaz.func85.trans (congrArg some (by kernel_rfl))⟩
  t0 := Ybaz.underlying0
  a0 := Ybaz.isAgg0
  z0 := Ybaz.sizeOf0
  v0 := Ybaz.zeroValue0
  t3 := Ybaz.underlying3
  a3 := Ybaz.isAgg3
  z3 := Ybaz.sizeOf3
  v3 := Ybaz.zeroValue3
  t4 := Ybaz.underlying4
  a4 := Ybaz.isAgg4
  z4 := Ybaz.sizeOf4
  v4 := Ybaz.zeroValue4
  t22 := Ybaz.underlying56
  a22 := Ybaz.isAgg56
  z22 := Ybaz.sizeOf56
  v22 := Ybaz.zeroValue56
  a23 := Ybaz.isAgg9
  z23 := Ybaz.sizeOf9
  t25 := Ybaz.underlying168
  a25 := Ybaz.isAgg168
  z25 := Ybaz.sizeOf168
  v25 := Ybaz.zeroValue168 }
open Go.RowKit Go.Lib in
theorem Ybaz.slices_IndexFunc {α : Type} [Inhabited α] (enc : α → Value) (p : α → Bool) (g : Nat) (lb : Array Value) (eg : ∀ args w, (callFunc g args).run Ybaz.prog w = .ok (.enter g args) w) (b off n c : Nat) (zs : List α) (w : World) (hp : PredAt Ybaz.prog g lb enc p w) (hz : n ≤ zs.length) (hbig : n ≤ 9223372036854775807) (hc : ∀ j, j < zs.length → w.cell? ⟨b, off + j, none⟩ = some (enc zs[j]!)) :
    Calls Ybaz.prog 85 #[.slice (some ⟨b, off, none⟩) n c, .func (.func g) #[] lb] w fun e w' => e = .returned (.int .i64 (Lib.idxBy (fun _ y => p y) (zs.take n) default)) ∧ ∃ q, w' = w.drewN q := AnyE.slices_IndexFunc Ybaz.laysSlH6_f85 enc p g lb eg b off n c zs w hp hz hbig hc
open Go.RowKit Go.Lib in
theorem Ybaz.slices_IndexFunc_empty {α : Type} [Inhabited α] (a : Option Addr) (c : Nat) (fv : Value) (w : World) :
    Calls Ybaz.prog 85 #[.slice a 0 c, fv] w fun e w' => e = .returned (.int .i64 (-1)) ∧ w' = w := AnyE.slices_IndexFunc_empty Ybaz.laysSlH6_f85 a c fv w
def Ybaz.laysSlH8_f53_ren : Go.Shelf.Ren := ⟨fun | 8 => 53 | 6 => 85 | n => n, fun | 22 => 56 | 23 => 9 | 25 => 168 | 4 => 4 | 3 => 3 | 0 => 0 | n => n, fun | n => n⟩
theorem Ybaz.laysSlH8_f53 : Go.Proofs.SlLaysH.n8 Ybaz.prog Ybaz.laysSlH8_f53_ren := {
  mixed := by kernel_rfl
  f6 := ⟨Ybaz.f85.name, by decide, Ybaz.func85.trans (congrArg some (by kernel_rfl))⟩
  f8 := ⟨Ybaz.f53.name, by decide, Ybaz.func53.trans (congrArg some (by kernel_rfl))⟩
  t0 := Ybaz.underlying0
  a0 := Ybaz.isAgg0
  z0 := Ybaz.sizeOf0
  v0 := Ybaz.zeroValue0
  t3 := Ybaz.underlying3
  a3 := Ybaz.isAgg3
  z3 := Ybaz.sizeOf3
  v3 := Ybaz.zeroValue3
  t4 := Ybaz.underlying4
  a4 := Ybaz.isAgg4
  z4 := Ybaz.sizeOf4
  v4 := Ybaz.zeroValue4
  t22 := Ybaz.underlying56
  a22 := Ybaz.isAgg56
  z22 := Ybaz.sizeOf56
  v22 := Ybaz.zeroValue56
  a23 := Ybaz.isAgg9
  z23 := Ybaz.sizeOf9
  t25 := Ybaz.underlying168
  a25 := Ybaz.isAgg168
  z25 := Ybaz.sizeOf168
  v25 := Ybaz.zeroValue168 }
open Go.RowKit Go.Lib in
theorem Ybaz.slices_ContainsFunc {α : Type} [Inhabited α] (enc : α → Value) (p : α → Bool) (g : Nat) (lb : Array Value) (eg : ∀ args w, (callFunc g args).run Ybaz.prog w = .ok (.enter g args) w) (b off n c : Nat) (zs : List α) (w : World) (hp : PredAt Ybaz.prog g lb enc p w) (hz : n ≤ zs.length) (hbig : n ≤ 9223372036854775807) (hc : ∀ j, j < zs.length → w.cell? ⟨b, off + j, none⟩ = some (enc zs[j]!)) :
    Calls Ybaz.prog 53 #[.slice (some ⟨b, off, none⟩) n c, .func (.func g) #[] lb] w fun e w' => e = .returned (.bool ((zs.take n).any p)) ∧ ∃ q, w' = w.drewN q := AnyE.slices_ContainsFunc Ybaz.laysSlH8_f53 enc p g lb eg b off n c zs w hp hz hbig hc
open Go.RowKit Go.Lib in
theorem Ybaz.slices_ContainsFunc_empty {α : Type} [Inhabited α] (a : Option Addr) (c : Nat) (fv : Value) (w : World) :
    Calls Ybaz.prog 53 #[.slice a 0 c, fv] w fun e w' => e = .returned (.bool false) ∧ w' = w := AnyE.slices_ContainsFunc_empty Ybaz.laysSlH8_f53 a c fv w
end Go.Proofs
