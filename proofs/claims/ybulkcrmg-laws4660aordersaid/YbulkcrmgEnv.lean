/-
  LawS4660AOrder: what the law is handed; the state behind newOrder.
-/
import Derived.Test.YbulkcrmgNewOrder
import Derived.Test.YbulkcrmgPure
namespace Go.Proofs.Ybulkcrmg
open Go.RowKit
namespace Order
open Kit

structure Inp where
  aR : Option Addr
  nR : Nat
  cR : Nat
  x : Nat → Nat
  aM : Option Addr
  nM : Nat
  cM : Nat
  mi : Nat → Nat
  mr : Nat → Nat
  aS : Option Addr
  nS : Nat
  cS : Nat
  sa : Nat → Nat
  sb : Nat → Nat
  sk : Nat → Nat
  ex : Nat
  kd : Nat
def Inp.rs (I : Inp) (i : Nat) : Nat := I.x i % 10
def Inp.mI (I : Inp) (i : Nat) : Nat := I.mi i % 8
def Inp.mR (I : Inp) (i : Nat) : Nat := I.mr i % 10
def Inp.sA (I : Inp) (i : Nat) : Nat := I.sa i % 10
def Inp.sB (I : Inp) (i : Nat) : Nat := I.sb i % 10
def Inp.sK (I : Inp) (i : Nat) : Nat := I.sk i % 3
def Inp.nf (I : Inp) : Nat → Option Nat := idx I.rs I.nR 114
def Inp.ind (I : Inp) : Nat → Option Nat := (nI I.mI I.nM).1
def Inp.n (I : Inp) : Nat := (nI I.mI I.nM).2
def Inp.e (I : Inp) : Nat := I.ex % 3
def Inp.T (I : Inp) : Nat := I.n + I.e
def Inp.fI (I : Inp) : Nat → Nat → Option Nat := F7 I.ind I.n I.e
def Inp.k (I : Inp) : Nat := I.kd % 2
def Inp.zM (I : Inp) (k : Nat) : Nat → List Nat := zsM I.nf (fun a => (I.fI 105 a).getD 0) I.T I.mI I.mR k
def Inp.zS (I : Inp) (k : Nat) : Nat → List Nat := zsS I.nf I.T I.nR I.k I.sA I.sB I.sK (I.zM I.nM) k
abbrev oct (k : Nat) : Value := .int .u8 (k : Int)

structure Ok (w0 : World) (I : Inp) : Prop where
  hR : I.nR ≤ 1024
  hM : I.nM ≤ 1024
  hS : I.nS ≤ 1024
  bx : ∀ i, I.x i < 256
  bmi : ∀ i, I.mi i < 256
  bmr : ∀ i, I.mr i < 256
  bsa : ∀ i, I.sa i < 256
  bsb : ∀ i, I.sb i < 256
  bsk : ∀ i, I.sk i < 256
  bex : I.ex < 256
  bkd : I.kd < 256
  rR : 1 ≤ I.nR → ∃ b off, I.aR = some ⟨b, off, none⟩ ∧ b < w0.heap.size ∧ ∀ i, i < I.nR → w0.cell? ⟨b, off + i, none⟩ = some (oct (I.x i))
  rM : 1 ≤ I.nM → ∃ b off, I.aM = some ⟨b, off, none⟩ ∧ b < w0.heap.size ∧ ∀ i, i < I.nM → w0.cell? ⟨b, off + i * 2, none⟩ = some (oct (I.mi i)) ∧ w0.cell? ⟨b, off + i * 2 + 1, none⟩ = some (oct (I.mr i))
  rS : 1 ≤ I.nS → ∃ b off, I.aS = some ⟨b, off, none⟩ ∧ b < w0.heap.size ∧ ∀ i, i < I.nS → w0.cell? ⟨b, off + i * 3, none⟩ = some (oct (I.sa i)) ∧ w0.cell? ⟨b, off + i * 3 + 1, none⟩ = some (oct (I.sb i)) ∧ w0.cell? ⟨b, off + i * 3 + 2, none⟩ = some (oct (I.sk i))

/-- Behind newOrder. -/
structure Fin (w0 W1 W : World) (I : Inp) (B : Blk) (n₀ : Nat) (val : Nat → Value) (bR bNum bI bMap N : Nat) : Prop where
  st : St W1 W n₀ B bMap I.nR I.T I.rs (I.zS I.nS) val (sv (I.zM I.nM) I.T) (sq (I.zM I.nM) I.T)
  roles : Row W bR 9 ((List.range I.nR).map (fun i => str (I.rs i)))
  nums : Row W bNum 26 ((List.range 10).map (fun j => .int .i64 (ofO (I.nf j))))
  inds : Row W bI 28 ((List.range 8).map (fun j => .int .i64 (ofO (I.ind j))))
  imap : MapIs W bMap I.fI I.T N
  low : Below w0.heap.size w0 W

theorem Inp.n_le (I : Inp) : I.n ≤ 8 := by
  unfold Inp.n
  rw [nI_cnt I.mI I.nM (fun i => Nat.mod_lt _ (by omega))]
  exact cnt_le _ _
theorem Inp.e_le (I : Inp) : I.e ≤ 2 := by unfold Inp.e; omega
theorem Inp.T_le (I : Inp) : I.T ≤ 10 := by
  have := I.n_le
  have := I.e_le
  unfold Inp.T
  omega

theorem tm10 (x : Nat) : ((x : Int)).tmod 10 = ((x % 10 : Nat) : Int) := (Int.ofNat_tmod x 10).symm
theorem wm10 (x : Nat) : IntKind.i64.wrap (((x : Int)).tmod 10) = ((x % 10 : Nat) : Int) := by
  rw [tm10, IntKind.wrap_i64]
  have : x % 10 < 10 := Nat.mod_lt _ (by omega)
  omega
theorem tm8 (x : Nat) : ((x : Int)).tmod 8 = ((x % 8 : Nat) : Int) := (Int.ofNat_tmod x 8).symm
theorem wm8 (x : Nat) : IntKind.i64.wrap (((x : Int)).tmod 8) = ((x % 8 : Nat) : Int) := by
  rw [tm8, IntKind.wrap_i64]
  have : x % 8 < 8 := Nat.mod_lt _ (by omega)
  omega
theorem tm3 (x : Nat) : ((x : Int)).tmod 3 = ((x % 3 : Nat) : Int) := (Int.ofNat_tmod x 3).symm
theorem wm3 (x : Nat) : IntKind.i64.wrap (((x : Int)).tmod 3) = ((x % 3 : Nat) : Int) := by
  rw [tm3, IntKind.wrap_i64]
  have : x % 3 < 3 := Nat.mod_lt _ (by omega)
  omega
theorem tm2 (x : Nat) : ((x : Int)).tmod 2 = ((x % 2 : Nat) : Int) := (Int.ofNat_tmod x 2).symm
theorem wm2 (x : Nat) : IntKind.i64.wrap (((x : Int)).tmod 2) = ((x % 2 : Nat) : Int) := by
  rw [tm2, IntKind.wrap_i64]
  have : x % 2 < 2 := Nat.mod_lt _ (by omega)
  omega

theorem cell_ad {W : World} (o : Obj) {b k : Nat} (h : b < W.heap.size) : (W.alloc o).drew.cell? ⟨b, k, none⟩ = W.cell? ⟨b, k, none⟩ := cell_alloc_low o h
theorem cell_da {W : World} (o : Obj) {b k : Nat} (h : b < W.heap.size) : (W.drew.alloc o).cell? ⟨b, k, none⟩ = W.cell? ⟨b, k, none⟩ := cell_alloc_low (W := W.drew) o h
def lawPost (w0 : World) (e : Ending) (w' : World) : Prop := e = .returned (.bool true) ∧ Below w0.heap.size w0 w'
end Order
end Go.Proofs.Ybulkcrmg
