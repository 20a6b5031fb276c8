import Derived.Test.YbulkcrdqRows
import Derived.Test.YbulkcrdqPcg
import Derived.Test.YbulkcrdqKit
import Derived.WalkKit
import Derived.ProofKit
import Derived.BigQuiet
import Derived.Deep.QuietTactic
import Derived.WalkSmall
import Derived.Lib.Mul64
import Derived.Laws.Bits64b
import Derived.Laws.Externs
import Derived.Deep.LoopGhost
namespace Go.Proofs.Ybulkcrdq
open Go.RowKit

namespace Rand
open Kit

/-- Block b is a source in the state s. -/
def Src (w : World) (b s : Nat) : Prop := w.heap[b]? = some (.cells #[.int .u64 ((s / 18446744073709551616 : Nat) : Int), .int .u64 ((s % 18446744073709551616 : Nat) : Int)] 88 (0, 0))

theorem maskN (a : Nat) (ha : a < 18446744073709551616) : bits .and .u64 (a : Int) 4294967295 = ((a % 4294967296 : Nat) : Int) := by
  have h := bits_and_u64_nat a 4294967295 ha (by omega)
  have e : a &&& 4294967295 = a % 4294967296 := Nat.and_two_pow_sub_one_eq_mod a 32
  rw [e] at h
  exact h
theorem divN (a : Nat) : (a : Int) / 4294967296 = ((a / 4294967296 : Nat) : Int) := by omega
theorem mulN (a b : Nat) : (a : Int) * (b : Int) = ((a * b : Nat) : Int) := (Int.natCast_mul a b).symm
theorem addN (a b : Nat) : (a : Int) + (b : Int) = ((a + b : Nat) : Int) := (Int.natCast_add a b).symm
theorem wrapN (a : Nat) (ha : a < 18446744073709551616) : IntKind.u64.wrap (a : Int) = (a : Int) := by rw [IntKind.wrap_u64]; omega
theorem wrapM (a : Nat) : IntKind.u64.wrap (a : Int) = ((a % 18446744073709551616 : Nat) : Int) := by rw [IntKind.wrap_u64]; omega

set_option maxHeartbeats 1000000 in
/-- math/bits.Mul64, every x and y. -/
theorem mul64 (x y : Nat) (hx : x < 18446744073709551616) (hy : y < 18446744073709551616) (w : World) :
    Calls Yba.prog 17 #[.int .u64 x, .int .u64 y] w fun e w' => e = .returned (.tuple #[.int .u64 ((x * y / 18446744073709551616 : Nat) : Int), .int .u64 ((x * y % 18446744073709551616 : Nat) : Int)]) ∧ w' = w := by
  obtain ⟨bd, bt, bw, hhi⟩ := Lib.mul64_hi x y hx hy
  have ba := Lib.half_mul_le (a := x / 4294967296) (b := y / 4294967296) (by omega) (by omega)
  have bb := Lib.half_mul_le (a := x / 4294967296) (b := y % 4294967296) (by omega) (by omega)
  have bc := Lib.half_mul_le (a := x % 4294967296) (b := y / 4294967296) (by omega) (by omega)
  have ba' : x / 4294967296 * (y / 4294967296) < 18446744073709551616 := by omega
  have bb' : x / 4294967296 * (y % 4294967296) < 18446744073709551616 := by omega
  have bc' : x % 4294967296 * (y / 4294967296) < 18446744073709551616 := by omega
  have bh1 : x / 4294967296 * (y / 4294967296) + (x / 4294967296 * (y % 4294967296) + x % 4294967296 * (y % 4294967296) / 4294967296) / 4294967296 < 18446744073709551616 := by omega
  have bh : x / 4294967296 * (y / 4294967296) + (x / 4294967296 * (y % 4294967296) + x % 4294967296 * (y % 4294967296) / 4294967296) / 4294967296 + ((x / 4294967296 * (y % 4294967296) + x % 4294967296 * (y % 4294967296) / 4294967296) % 4294967296 + x % 4294967296 * (y / 4294967296)) / 4294967296 < 18446744073709551616 := by omega
  go_enter Yba.func17, Yba.ntmps17
  go_wp2
  simp only [maskN x hx, maskN y hy, divN, mulN, addN, wrapN _ bd, wrapN _ bb', wrapN _ bt, maskN _ bt, wrapN _ bc', wrapN _ bw, wrapN _ ba', wrapN _ bh1, wrapN _ bh, wrapM (x * y)]
  rw [hhi]
  go_ret2
  exact ⟨rfl, rfl⟩

/-- math/bits.Add64: the model's own entry. -/
theorem add64 (x y c : Int) (hx : 0 ≤ x) (hy : 0 ≤ y) (hc0 : 0 ≤ c) (hc : c ≤ 1) (w : World) : (callFunc 37 #[.int .u64 x, .int .u64 y, .int .u64 c]).run Yba.prog w =
    .ok (.value (.tuple #[.int .u64 ((x + y + c) % 18446744073709551616), .int .u64 ((x + y + c) / 18446744073709551616)])) w := by
  rw [run_callFunc_extern Yba.func37 (by kernel_rfl) (by kernel_rfl) (by kernel_rfl) (e := add64Entry) (by kernel_rfl), run_add64 x y c hx hy hc0 hc]
  rfl

/-- The next state's two words. -/
def nl (lo : Nat) : Nat := (lo * 4865540595714422341 % 18446744073709551616 + 1442695040888963407) % 18446744073709551616
def nh (hi lo : Nat) : Nat := ((lo * 4865540595714422341 / 18446744073709551616 + (hi * 4865540595714422341 + lo * 2549297995355413924)) % 18446744073709551616 + 6364136223846793005 + (lo * 4865540595714422341 % 18446744073709551616 + 1442695040888963407) / 18446744073709551616) % 18446744073709551616

set_option maxHeartbeats 1000000 in
theorem next_any (hi lo : Nat) (hl : lo < 18446744073709551616) (w : World) (b : Nat) (hb : w.heap[b]? = some (.cells #[.int .u64 hi, .int .u64 lo] 88 (0, 0))) :
    Calls Yba.prog 31 #[.pointer (some ⟨b, 0, none⟩)] w fun e w' => e = .returned (.tuple #[.int .u64 (nh hi lo : Nat), .int .u64 (nl lo : Nat)]) ∧
      w'.heap[b]? = some (.cells #[.int .u64 (nh hi lo : Nat), .int .u64 (nl lo : Nat)] 88 (0, 0)) ∧ Only b w w' := by
  have h0 : w.cell? ⟨b, 0, none⟩ = some (.int .u64 hi) := by rw [cell_of_row w b 0 _ _ _ hb]; rfl
  have h1 : w.cell? ⟨b, 1, none⟩ = some (.int .u64 lo) := by rw [cell_of_row w b 1 _ _ _ hb]; rfl
  have f0 := frozen_of_row w b 0 _ _ hb
  have f1 := frozen_of_row w b 1 _ _ hb
  have Hb : Hid _ := hb
  clear hb
  go_enter Yba.func31, Yba.ntmps31
  go_wp2_with fail
  refine (mul64 lo 4865540595714422341 hl (by omega) _).mono ?_
  rintro e w1 ⟨rfl, rfl⟩
  generalize hX : lo * 4865540595714422341 / 18446744073709551616 = X
  generalize hY : lo * 4865540595714422341 % 18446744073709551616 = Y
  have HX : Hid _ := hX
  have HY : Hid _ := hY
  have bX : X < 18446744073709551616 := by omega
  have bY : Y < 18446744073709551616 := by omega
  clear hX hY
  go_wp2
  go_quiet (fail)
  go_wp2_with fail
  have hZ : IntKind.u64.wrap ((X : Int) + IntKind.u64.wrap (IntKind.u64.wrap ((hi : Int) * 4865540595714422341) + IntKind.u64.wrap ((lo : Int) * 2549297995355413924))) = (((X + (hi * 4865540595714422341 + lo * 2549297995355413924)) % 18446744073709551616 : Nat) : Int) := by
    simp only [IntKind.wrap_u64]
    omega
  rw [hZ]
  clear hZ
  obtain ⟨Z, hZ⟩ : ∃ Z, Z = (X + (hi * 4865540595714422341 + lo * 2549297995355413924)) % 18446744073709551616 := ⟨_, rfl⟩
  rw [← hZ]
  have bZ : Z < 18446744073709551616 := by omega
  have HZ : Hid _ := hZ
  clear hZ
  obtain ⟨N, hN⟩ : ∃ N, N = (Y + 1442695040888963407) % 18446744073709551616 := ⟨_, rfl⟩
  obtain ⟨cy, hcy⟩ : ∃ cy, cy = (Y + 1442695040888963407) / 18446744073709551616 := ⟨_, rfl⟩
  obtain ⟨Z2, hZ2⟩ : ∃ Z2, Z2 = (Z + 6364136223846793005 + cy) % 18446744073709551616 := ⟨_, rfl⟩
  obtain ⟨c2, hc2⟩ : ∃ c2, c2 = (Z + 6364136223846793005 + cy) / 18446744073709551616 := ⟨_, rfl⟩
  have a1 : ∀ W, (callFunc 37 #[.int .u64 (Y : Int), .int .u64 1442695040888963407, .int .u64 0]).run Yba.prog W = .ok (.value (.tuple #[.int .u64 (N : Int), .int .u64 (cy : Int)])) W := by
    intro W
    rw [add64 Y 1442695040888963407 0 (by omega) (by omega) (by omega) (by omega), hN, hcy]
    congr 5 <;> omega
  have a2 : ∀ W, (callFunc 37 #[.int .u64 (Z : Int), .int .u64 6364136223846793005, .int .u64 (cy : Int)]).run Yba.prog W = .ok (.value (.tuple #[.int .u64 (Z2 : Int), .int .u64 (c2 : Int)])) W := by
    intro W
    rw [add64 Z 6364136223846793005 cy (by omega) (by omega) (by omega) (by omega), hZ2, hc2]
    congr 5 <;> omega
  have HN : Hid _ := hN
  have Hcy : Hid _ := hcy
  have HZ2 : Hid _ := hZ2
  clear hN hcy hZ2 hc2
  go_wp2_with (first | simp only [a1] | simp only [a2])
  go_ret2
  have eN : nl lo = N := by unfold nl; rw [HY.out, HN.out]
  have eH : nh hi lo = Z2 := by unfold nh; rw [HX.out, HY.out, ← Hcy.out, ← HZ.out, HZ2.out]
  rw [eN, eH]
  refine ⟨rfl, ?_, ((Only.refl _ _).setCell 1 _).setCell 0 _ |>.drewN _⟩
  have := heap_setCell_same _ b 0 _ _ (.int .u64 (Z2 : Int)) (heap_setCell_same _ b 1 _ _ (.int .u64 (N : Int)) Hb.out)
  exact this

theorem nx_words (hi lo : Nat) : Pcg.nx (hi * 18446744073709551616 + lo) = nh hi lo * 18446744073709551616 + nl lo := by
  unfold Pcg.nx nh nl Pcg.A Pcg.C Pcg.MM
  omega

theorem dx_walk (h l : Nat) (bh : h < 18446744073709551616) (bl : l < 18446744073709551616) :
    IntKind.u64.wrap (bits BinOp.xor IntKind.u64
        (IntKind.u64.wrap (bits BinOp.xor IntKind.u64 (↑h) (↑h / 4294967296) * 15750249268501108917))
        (IntKind.u64.wrap (bits BinOp.xor IntKind.u64 (↑h) (↑h / 4294967296) * 15750249268501108917) / 281474976710656) *
      bits BinOp.or IntKind.u64 (↑l) 1) = ((Pcg.dx h * (l ||| 1) % 18446744073709551616 : Nat) : Int) := by
  have e1 : ((h : Int) / 4294967296) = ((h / 4294967296 : Nat) : Int) := by omega
  rw [e1, bits_xor_u64_nat h (h / 4294967296) bh (by omega)]
  have e2 : (((h ^^^ (h / 4294967296) : Nat) : Int) * 15750249268501108917) = ((h ^^^ (h / 4294967296)) * 15750249268501108917 : Nat) := by rw [Int.natCast_mul]; rfl
  rw [e2, wrapM]
  have e3 : (((h ^^^ (h / 4294967296)) * 15750249268501108917 % 18446744073709551616 : Nat) : Int) / 281474976710656 = (((h ^^^ (h / 4294967296)) * 15750249268501108917 % 18446744073709551616 / 281474976710656 : Nat) : Int) := by omega
  rw [e3, bits_xor_u64_nat _ _ (Nat.mod_lt _ (by omega)) (by omega)]
  have e4 := bits_or_u64_nat l 1 bl (by omega)
  rw [show ((1 : Nat) : Int) = 1 from rfl] at e4
  rw [e4, mulN, wrapM]
  rfl

theorem ret_int {k : IntKind} {a b : Int} (h : a = b) : Ending.returned (.int k a) = .returned (.int k b) := by rw [h]

set_option maxHeartbeats 1000000 in
theorem pcg_any (hi lo : Nat) (hl : lo < 18446744073709551616) (w : World) (b : Nat) (hb : w.heap[b]? = some (.cells #[.int .u64 hi, .int .u64 lo] 88 (0, 0))) :
    Calls Yba.prog 27 #[.pointer (some ⟨b, 0, none⟩)] w fun e w' => e = .returned (.int .u64 (Pcg.dx (nh hi lo) * (nl lo ||| 1) % 18446744073709551616 : Nat)) ∧
      w'.heap[b]? = some (.cells #[.int .u64 (nh hi lo : Nat), .int .u64 (nl lo : Nat)] 88 (0, 0)) ∧ Only b w w' := by
  have Hb : Hid _ := hb
  clear hb
  go_enter Yba.func27, Yba.ntmps27
  go_wp2_with fail
  refine (next_any hi lo hl w b Hb.out).mono ?_
  rintro e w1 ⟨rfl, hw1, ho⟩
  have bh : nh hi lo < 18446744073709551616 := Nat.mod_lt _ (by omega)
  have bl : nl lo < 18446744073709551616 := Nat.mod_lt _ (by omega)
  obtain ⟨h, eh⟩ : ∃ h, nh hi lo = h := ⟨_, rfl⟩
  obtain ⟨l, el⟩ : ∃ l, nl lo = l := ⟨_, rfl⟩
  rw [eh] at bh hw1
  rw [el] at bl hw1
  rw [eh, el]
  have H1 : Hid _ := hw1
  have Eh : Hid _ := eh
  have El : Hid _ := el
  clear hw1 eh el
  go_wp2
  go_ret
  rw [Eh.out, El.out]
  exact ⟨ret_int (dx_walk h l bh bl), H1.out, ho⟩

/-- (*random.Source).Uint64: the state's next draw. -/
theorem u64_any (hi lo : Nat) (hl : lo < 18446744073709551616) (w : World) (b : Nat) (hb : w.heap[b]? = some (.cells #[.int .u64 hi, .int .u64 lo] 88 (0, 0))) :
    Calls Yba.prog 18 #[.pointer (some ⟨b, 0, none⟩)] w fun e w' => e = .returned (.int .u64 (Pcg.dx (nh hi lo) * (nl lo ||| 1) % 18446744073709551616 : Nat)) ∧
      w'.heap[b]? = some (.cells #[.int .u64 (nh hi lo : Nat), .int .u64 (nl lo : Nat)] 88 (0, 0)) ∧ Only b w w' := by
  have Hb : Hid _ := hb
  clear hb
  obtain ⟨z, hz⟩ : ∃ z, Pcg.dx (nh hi lo) * (nl lo ||| 1) % 18446744073709551616 = z := ⟨_, rfl⟩
  go_enter Yba.func18, Yba.ntmps18
  go_wp2_with fail
  refine (pcg_any hi lo hl w b Hb.out).mono ?_
  rintro e w1 ⟨rfl, hw1, ho⟩
  have H1 : Hid _ := hw1
  rw [hz]
  have Hz : Hid _ := hz
  clear hw1 hz
  go_wp2
  go_ret
  exact ⟨by rw [Hz.out]; rfl, H1.out, ho⟩

theorem src_nx {w : World} {b s : Nat} (h : w.heap[b]? = some (.cells #[.int .u64 (nh (s / 18446744073709551616) (s % 18446744073709551616) : Nat), .int .u64 (nl (s % 18446744073709551616) : Nat)] 88 (0, 0))) : Src w b (Pcg.nx s) := by
  have e := nx_words (s / 18446744073709551616) (s % 18446744073709551616)
  rw [Nat.div_add_mod'] at e
  have bl : nl (s % 18446744073709551616) < 18446744073709551616 := Nat.mod_lt _ (by omega)
  unfold Src
  rw [show Pcg.nx s / 18446744073709551616 = nh (s / 18446744073709551616) (s % 18446744073709551616) by omega, show Pcg.nx s % 18446744073709551616 = nl (s % 18446744073709551616) by omega]
  exact h

theorem out_nx (s : Nat) : Pcg.dx (nh (s / 18446744073709551616) (s % 18446744073709551616)) * (nl (s % 18446744073709551616) ||| 1) % 18446744073709551616 = Pcg.out (Pcg.nx s) := by
  have e := nx_words (s / 18446744073709551616) (s % 18446744073709551616)
  rw [Nat.div_add_mod'] at e
  have bl : nl (s % 18446744073709551616) < 18446744073709551616 := Nat.mod_lt _ (by omega)
  unfold Pcg.out
  rw [show Pcg.nx s / 18446744073709551616 = nh (s / 18446744073709551616) (s % 18446744073709551616) by omega, show Pcg.nx s % 18446744073709551616 = nl (s % 18446744073709551616) by omega]

/-- (*random.Source).Uint64, over the state as one number. -/
theorem draw (s : Nat) (w : World) (b : Nat) (hb : Src w b s) :
    Calls Yba.prog 18 #[.pointer (some ⟨b, 0, none⟩)] w fun e w' => e = .returned (.int .u64 (Pcg.out (Pcg.nx s) : Nat)) ∧ Src w' b (Pcg.nx s) ∧ Only b w w' := by
  refine (u64_any _ _ (Nat.mod_lt _ (by omega)) w b hb).mono ?_
  rintro e w' ⟨rfl, h, ho⟩
  exact ⟨by rw [out_nx], src_nx h, ho⟩

theorem out_lt (s : Nat) : Pcg.out s < 18446744073709551616 := Nat.mod_lt _ (by omega)

/-- The first draw that is taken: what Below hands back hangs on the seed and n alone. -/
theorem taken (seed n : Nat) (hn : 0 < n) (hN : n ≤ 2048) : ∃ k, (0 < k ∧ (18446744073709551616 - n) % n ≤ Pcg.out (Pcg.it k (seed * 18446744073709551616 + 11400714819323198485)) * n % 18446744073709551616) ∧
    ∀ m, (0 < m ∧ (18446744073709551616 - n) % n ≤ Pcg.out (Pcg.it m (seed * 18446744073709551616 + 11400714819323198485)) * n % 18446744073709551616) → k ≤ m := by
  refine exists_least ?_
  obtain ⟨K, hK, h⟩ := Pcg.some_draw seed
  refine ⟨K, hK, ?_⟩
  rw [show seed * 18446744073709551616 + 11400714819323198485 = seed * Pcg.M + Pcg.ST from rfl, h]
  have h1 : (18446744073709551616 - n) % n < n := Nat.mod_lt _ hn
  have h2 : 18446744073709551615 * n % 18446744073709551616 = 18446744073709551616 - n := by omega
  omega

set_option maxHeartbeats 1000000 in
theorem below_any (seed n : Nat) (hn : 0 < n) (hN : n ≤ 2048) : ∃ r, r < n ∧ ∀ (w : World) (b : Nat), Src w b (seed * 18446744073709551616 + 11400714819323198485) →
    Calls Yba.prog 12 #[.pointer (some ⟨b, 0, none⟩), .int .u64 n] w fun e w' => e = .returned (.int .u64 (r : Nat)) ∧ Only b w w' := by
  obtain ⟨k0, ⟨hk0, hacc⟩, hleast⟩ := taken seed n hn hN
  generalize hS : seed * 18446744073709551616 + 11400714819323198485 = S at *
  clear hS
  have hr : Pcg.out (Pcg.it k0 S) * n / 18446744073709551616 < n := by
    have := out_lt (Pcg.it k0 S)
    rw [Nat.div_lt_iff_lt_mul (by omega)]
    rw [Nat.mul_comm n]
    exact Nat.mul_lt_mul_of_pos_right this hn
  refine ⟨_, hr, ?_⟩
  intro w b hb
  have Hacc : Hid _ := hacc
  have Hleast : Hid _ := hleast
  have Hb : Hid (Src w b S) := hb
  clear hacc hleast hb hr
  have hnz : ((n : Int) == 0) = false := by simp; omega
  go_enter Yba.func12, Yba.ntmps12
  go_wp2_with fail
  refine (draw S w b Hb.out).mono ?_
  rintro e w1 ⟨rfl, hs1, ho1⟩
  obtain ⟨x, hx⟩ : ∃ x, Pcg.out (Pcg.nx S) = x := ⟨_, rfl⟩
  have bx := out_lt (Pcg.nx S)
  rw [hx] at bx ⊢
  have Hx : Hid _ := hx
  have Hs1 : Hid (Src w1 b _) := hs1
  clear hx hs1
  go_wp2_with fail
  refine (mul64 x n bx (by omega) _).mono ?_
  rintro e w2 ⟨rfl, rfl⟩
  obtain ⟨H, hH⟩ : ∃ H, x * n / 18446744073709551616 = H := ⟨_, rfl⟩
  obtain ⟨L, hL⟩ : ∃ L, x * n % 18446744073709551616 = L := ⟨_, rfl⟩
  have bL : L < 18446744073709551616 := by omega
  rw [hH, hL]
  have HH : Hid _ := hH
  have HL : Hid _ := hL
  clear hH hL
  by_cases hlt : L < n
  · go_wp2
    obtain ⟨R, hR⟩ : ∃ R, (18446744073709551616 - n) % n = R := ⟨_, rfl⟩
    have hneg : (IntKind.u64.wrap (-(n : Int))).tmod (n : Int) = (R : Int) := by
      rw [IntKind.wrap_u64, Int.tmod_eq_emod_of_nonneg (by omega), ← hR]
      have : (-(n : Int)) % 18446744073709551616 = ((18446744073709551616 - n : Nat) : Int) := by omega
      rw [this]
      rfl
    rw [hneg]
    have HR : Hid _ := hR
    clear hR hneg
    go_loopg [5, 6] (k0 - 1) (fun g h l wr => ∃ i H L : Nat, 1 ≤ i ∧ i ≤ k0 ∧ g = k0 - i ∧ h = .int .u64 (H : Int) ∧ l = .int .u64 (L : Int) ∧
      Pcg.out (Pcg.it i S) * n / 18446744073709551616 = H ∧ Pcg.out (Pcg.it i S) * n % 18446744073709551616 = L ∧ Src wr b (Pcg.it i S) ∧ Only b w wr)
    case atStart => exact ⟨1, H, L, Nat.le_refl _, hk0, rfl, rfl, rfl, by show Pcg.out (Pcg.nx S) * n / 18446744073709551616 = H; rw [Hx.out, HH.out], by show Pcg.out (Pcg.nx S) * n % 18446744073709551616 = L; rw [Hx.out, HL.out], Hs1.out, ho1⟩
    case round =>
      clear HH HL bL hlt Hx bx Hs1 ho1
      obtain ⟨i, H, L, hi1, hi2, rfl, rfl, rfl, hH, hL, hs, ho⟩ := hrel
      have bL : L < 18446744073709551616 := by omega
      have HH : Hid _ := hH
      have HL : Hid _ := hL
      have Hs : Hid (Src wr b _) := hs
      clear hH hL hs
      by_cases hlt : L < R
      · have hik : i < k0 := by
          by_cases e : i = k0
          · subst e
            have h1 := Hacc.out
            have h2 := HL.out
            have h3 := HR.out
            omega
          · omega
        go_wp2_with fail
        refine (draw _ wr b Hs.out).mono ?_
        rintro e w3 ⟨rfl, hs3, ho3⟩
        obtain ⟨y, hy⟩ : ∃ y, Pcg.out (Pcg.nx (Pcg.it i S)) = y := ⟨_, rfl⟩
        have bY := out_lt (Pcg.nx (Pcg.it i S))
        rw [hy] at bY ⊢
        have Hy : Hid _ := hy
        have Hs3 : Hid (Src w3 b _) := hs3
        clear hy hs3
        go_wp2_with fail
        refine (mul64 y n bY (by omega) _).mono ?_
        rintro e w4 ⟨rfl, rfl⟩
        obtain ⟨H', hH'⟩ : ∃ H, y * n / 18446744073709551616 = H := ⟨_, rfl⟩
        obtain ⟨L', hL'⟩ : ∃ L, y * n % 18446744073709551616 = L := ⟨_, rfl⟩
        rw [hH', hL']
        have HH' : Hid _ := hH'
        have HL' : Hid _ := hL'
        clear hH' hL'
        go_wp2
        go_roundg (k0 - (i + 1))
        case measure => omega
        case rel => exact ⟨i + 1, H', L', by omega, by omega, rfl, rfl, rfl, by show Pcg.out (Pcg.nx (Pcg.it i S)) * n / 18446744073709551616 = H'; rw [Hy.out, HH'.out], by show Pcg.out (Pcg.nx (Pcg.it i S)) * n % 18446744073709551616 = L'; rw [Hy.out, HL'.out], Hs3.out, ho.trans ho3⟩
      · have hik : i = k0 := by
          have := Hleast.out i ⟨by omega, by rw [HL.out, HR.out]; omega⟩
          omega
        go_wp2
        go_ret
        subst hik
        exact ⟨ret_int (by rw [HH.out]), ho⟩
  · go_wp2
    go_ret
    have hk : k0 = 1 := by
      have := Hleast.out 1 ⟨by omega, by
        show _ ≤ Pcg.out (Pcg.nx S) * n % 18446744073709551616
        rw [Hx.out, HL.out]; have : (18446744073709551616 - n) % n < n := Nat.mod_lt _ hn
        omega⟩
      omega
    subst hk
    refine ⟨ret_int ?_, ho1⟩
    show (H : Int) = ((Pcg.out (Pcg.nx S) * n / 18446744073709551616 : Nat) : Int)
    rw [Hx.out, HH.out]

/-- random.New: a new block holds the state. -/
theorem new_any (seed : Nat) (w : World) : Calls Yba.prog 10 #[.int .u64 seed] w fun e w' => e = .returned (.pointer (some ⟨w.heap.size, 0, none⟩)) ∧
      w' = w.alloc (.cells #[.int .u64 seed, .int .u64 11400714819323198485] 88) := by
  go_enter Yba.func10, Yba.ntmps10
  go_wp2
  go_end0
  go_wp2
  go_ret
  exact ⟨rfl, rfl⟩

theorem src_new (seed : Nat) (w : World) : Src (w.alloc (.cells #[.int .u64 seed, .int .u64 11400714819323198485] 88)) w.heap.size (seed * 18446744073709551616 + 11400714819323198485) := by
  unfold Src
  rw [heap_alloc_new, show (seed * 18446744073709551616 + 11400714819323198485) / 18446744073709551616 = seed by omega, show (seed * 18446744073709551616 + 11400714819323198485) % 18446744073709551616 = 11400714819323198485 by omega]
  rfl

/-- What Below hands back at this seed and this n. -/
def BelowIs (seed n r : Nat) : Prop := ∀ (w : World) (b : Nat), Src w b (seed * 18446744073709551616 + 11400714819323198485) →
    Calls Yba.prog 12 #[.pointer (some ⟨b, 0, none⟩), .int .u64 n] w fun e w' => e = .returned (.int .u64 (r : Nat)) ∧ Only b w w'
end Rand
end Go.Proofs.Ybulkcrdq
