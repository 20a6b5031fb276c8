/-
  PLAIN MATHEMATICS, NO GO IN SIGHT: the generator PCG-DXSM that package random draws from: from every state whose low word is the fixed stream, some later draw is 2^64 - 1; so a loop that rejects products with a small low word comes to an end.
-/
namespace Go.Proofs.Ybulkcrdq.Pcg

def M : Nat := 18446744073709551616
def MM : Nat := 340282366920938463463374607431768211456
def A : Nat := 2549297995355413924 * 18446744073709551616 + 4865540595714422341
def C : Nat := 6364136223846793005 * 18446744073709551616 + 1442695040888963407
def ST : Nat := 11400714819323198485
def r4 : Nat := 6848745282420445116
def q : Nat := 4350103176503831857
def c1 : Nat := 14909729996417474808
def e : Nat := 5932610342816181073
def f : Nat := 17996231618571681201
def hstar : Nat := 11234988151804123644

/-- One step of the generator's state, hi * 2^64 + lo. -/
def nx (s : Nat) : Nat := (s * A + C) % MM
def it : Nat → Nat → Nat
  | 0, s => s
  | k + 1, s => nx (it k s)

/-- What is drawn from the state (hi, lo). -/
def dx (h : Nat) : Nat :=
  let h1 := h ^^^ (h / 4294967296)
  let h2 := h1 * 15750249268501108917 % 18446744073709551616
  h2 ^^^ (h2 / 281474976710656)
def out (s : Nat) : Nat := dx (s / 18446744073709551616) * ((s % 18446744073709551616) ||| 1) % 18446744073709551616

theorem it_add (a b s : Nat) : it (a + b) s = it a (it b s) := by
  induction a with
  | zero => rw [Nat.zero_add]; rfl
  | succ a ih => rw [show a + 1 + b = (a + b) + 1 by omega]; show nx (it (a + b) s) = nx (it a (it b s)); rw [ih]

def coef : Nat → Nat × Nat
  | 0 => (A, C)
  | i + 1 => ((coef i).1 * (coef i).1 % MM, ((coef i).2 * (coef i).1 + (coef i).2) % MM)

theorem aff_comp (s a c m : Nat) : (((s * a + c) % m) * a + c) % m = (s * (a * a % m) + (c * a + c) % m) % m := by
  have h1 : (((s * a + c) % m) * a + c) % m = ((s * a + c) * a + c) % m := by
    rw [Nat.add_mod, Nat.mul_mod, Nat.mod_mod, ← Nat.mul_mod, ← Nat.add_mod]
  have h2 : (s * (a * a % m) + (c * a + c) % m) % m = (s * (a * a) + (c * a + c)) % m := by
    rw [Nat.add_mod, Nat.mul_mod, Nat.mod_mod, Nat.mod_mod, ← Nat.mul_mod, ← Nat.add_mod]
  rw [h1, h2, Nat.add_mul, Nat.mul_assoc, Nat.add_assoc]

theorem it_pow (i : Nat) : ∀ s, it (2 ^ i) s = (s * (coef i).1 + (coef i).2) % MM := by
  induction i with
  | zero => intro s; rfl
  | succ i ih =>
    intro s
    rw [Nat.pow_succ, show 2 ^ i * 2 = 2 ^ i + 2 ^ i by omega, it_add, ih s, ih]
    show _ = (s * ((coef i).1 * (coef i).1 % MM) + ((coef i).2 * (coef i).1 + (coef i).2) % MM) % MM
    exact aff_comp s _ _ _

/-- 2^64, under a name that nothing lays open. -/
def N64 : Nat := 2 ^ 64
theorem it_N64 (s : Nat) : it N64 s = (s * (coef 64).1 + (coef 64).2) % MM := it_pow 64 s

theorem coef64 : coef 64 = (1 + M * r4, M * q) := by decide +kernel

theorem mod_split (x y lo : Nat) (h : lo < M) : (lo + M * x + MM * y) % MM = lo + M * (x % M) := by
  have e : MM = M * M := by decide +kernel
  rw [e, Nat.add_mul_mod_self_left, Nat.mod_mul, Nat.add_mul_mod_self_left, Nat.mod_eq_of_lt h, Nat.add_mul_div_left _ _ (by decide +kernel : 0 < M), Nat.div_eq_of_lt h, Nat.zero_add]

theorem block (hi lo : Nat) (h : lo < M) : it N64 (hi * M + lo) = ((hi + r4 * lo + q) % M) * M + lo := by
  rw [it_N64, coef64]
  have e : (hi * M + lo) * (1 + M * r4) + M * q = lo + M * (hi + r4 * lo + q) + MM * (hi * r4) := by
    have : MM = M * M := by decide +kernel
    rw [this]
    generalize M = m
    generalize r4 = r
    generalize q = t
    simp only [Nat.mul_add, Nat.mul_one, Nat.mul_comm, Nat.mul_left_comm]
    omega
  rw [show ((1 + M * r4, M * q) : Nat × Nat).1 = 1 + M * r4 from rfl, show ((1 + M * r4, M * q) : Nat × Nat).2 = M * q from rfl, e, mod_split _ _ _ h, Nat.mul_comm M, Nat.add_comm]

theorem e_is : (r4 * c1 + q) % M = e := by decide +kernel

theorem blocks (j hi : Nat) (hh : hi < M) : it (j * N64) (hi * M + c1) = ((hi + j * e) % M) * M + c1 := by
  induction j with
  | zero => rw [Nat.zero_mul, Nat.zero_mul, Nat.add_zero, Nat.mod_eq_of_lt hh]; rfl
  | succ j ih =>
    rw [Nat.succ_mul, Nat.add_comm, it_add, ih, block _ _ (by decide +kernel : c1 < M)]
    have h1 : ((hi + j * e) % M + r4 * c1 + q) % M = (hi + (j + 1) * e) % M := by
      rw [Nat.add_assoc, Nat.add_mod, e_is, Nat.mod_mod, ← Nat.add_mod_mod, Nat.add_mod_mod, Nat.mod_add_mod, Nat.succ_mul, Nat.add_assoc]
    rw [h1]

theorem first (seed : Nat) : ∃ h1, h1 < M ∧ it 1 (seed * M + ST) = h1 * M + c1 := by
  have e : it 1 (seed * M + ST) = ((seed * M + ST) * A + C) % MM := rfl
  have e2 : MM = M * M := by decide +kernel
  rw [e, e2, Nat.mod_mul]
  refine ⟨((seed * M + ST) * A + C) / M % M, Nat.mod_lt _ (by decide +kernel), ?_⟩
  have : ((seed * M + ST) * A + C) % M = c1 := by
    have : (seed * M + ST) * A + C = (ST * A + C) + M * (seed * A) := by
      rw [Nat.add_mul, Nat.mul_comm seed M, Nat.mul_assoc]; omega
    rw [this, Nat.add_mul_mod_self_left]
    decide +kernel
  rw [this, Nat.mul_comm M, Nat.add_comm]

theorem ef : e * f % M = 1 := by decide +kernel

theorem hit (h1 : Nat) (hh : h1 < M) : (h1 + ((hstar + M - h1) * f % M) * e) % M = hstar := by
  have hs : hstar < M := by decide +kernel
  have h2 : (((hstar + M - h1) * f % M) * e) % M = (hstar + M - h1) % M := by
    rw [Nat.mul_mod, Nat.mod_mod, ← Nat.mul_mod, Nat.mul_assoc, Nat.mul_comm f e, Nat.mul_mod, ef, Nat.mul_one, Nat.mod_mod]
  rw [Nat.add_mod, h2, ← Nat.add_mod, show h1 + (hstar + M - h1) = hstar + M by omega, Nat.add_mod_right, Nat.mod_eq_of_lt hs]

/-- From the state that New lays for a seed, some draw is 2^64 - 1. -/
theorem some_draw (seed : Nat) : ∃ K, 0 < K ∧ out (it K (seed * M + ST)) = 18446744073709551615 := by
  obtain ⟨h1, hh, e1⟩ := first seed
  refine ⟨((hstar + M - h1) * f % M) * N64 + 1, Nat.succ_pos _, ?_⟩
  rw [it_add, e1, blocks _ _ hh, hit _ hh]
  decide +kernel

end Go.Proofs.Ybulkcrdq.Pcg
