/-
  The four regions of newOrder that say 't[i] = append(t[i], x)', whatever order is drawn.
-/
import Derived.Test.YbulkcrmgMake
namespace Go.Proofs.Ybulkcrmg
open Go.RowKit
namespace Order
open Kit

def apOps (s f iT vT : Nat) (p : String) : Array Oper := #[
  { dst := some (s + 0), op := .move (.tmp 9), type := 50, pos := p, after := #[], guard := none },
  { dst := some (s + 1), op := .nilCheck (.tmp (s + 0)), type := 0, pos := p, after := #[{ on := 0, ground := .data }], guard := none },
  { dst := some (s + 2), op := .fieldAddr 56 (.tmp (s + 1)) f, type := 0, pos := p, after := #[{ on := 1, ground := .data }], guard := none },
  { dst := some (s + 3), op := .load 52 (.tmp (s + 2)), type := 52, pos := p, after := #[{ on := 2, ground := .data }], guard := none },
  { dst := some (s + 4), op := .move (.tmp iT), type := 3, pos := p, after := #[], guard := none },
  { dst := some (s + 5), op := .move (.tmp 9), type := 50, pos := p, after := #[], guard := none },
  { dst := some (s + 6), op := .nilCheck (.tmp (s + 5)), type := 0, pos := p, after := #[{ on := 5, ground := .data }], guard := none },
  { dst := some (s + 7), op := .fieldAddr 56 (.tmp (s + 6)) f, type := 0, pos := p, after := #[{ on := 6, ground := .data }], guard := none },
  { dst := some (s + 8), op := .load 52 (.tmp (s + 7)), type := 52, pos := p, after := #[{ on := 7, ground := .data }], guard := none },
  { dst := some (s + 9), op := .move (.tmp iT), type := 3, pos := p, after := #[], guard := none },
  { dst := some (s + 10), op := .indexAddr 52 (.tmp (s + 8)) (.tmp (s + 9)), type := 0, pos := p, after := #[{ on := 8, ground := .data }, { on := 9, ground := .data }], guard := none },
  { dst := some (s + 11), op := .load 58 (.tmp (s + 10)), type := 58, pos := p, after := #[{ on := 10, ground := .data }], guard := none },
  { dst := some (s + 12), op := .move (.tmp vT), type := 3, pos := p, after := #[], guard := none },
  { dst := some (s + 13), op := .buildSlice 58 1 #[(0, (.tmp (s + 12)))], type := 58, pos := p, after := #[{ on := 12, ground := .data }], guard := none },
  { dst := some (s + 14), op := .call { callee := .builtin .append, args := #[.tmp (s + 11), .tmp (s + 13)], argTypes := #[58, 58] }, type := 58, pos := p, after := #[{ on := 11, ground := .data }, { on := 13, ground := .data }], guard := none },
  { dst := some (s + 15), op := .indexAddr 52 (.tmp (s + 3)) (.tmp (s + 4)), type := 0, pos := p, after := #[{ on := 3, ground := .data }, { on := 4, ground := .data }, { on := 0, ground := .phase }, { on := 1, ground := .phase }, { on := 2, ground := .phase }, { on := 3, ground := .phase }, { on := 4, ground := .phase }, { on := 5, ground := .phase }, { on := 6, ground := .phase }, { on := 7, ground := .phase }, { on := 8, ground := .phase }, { on := 9, ground := .phase }, { on := 10, ground := .phase }, { on := 11, ground := .phase }, { on := 12, ground := .phase }, { on := 13, ground := .phase }, { on := 14, ground := .phase }], guard := none },
  { dst := none, op := .store 58 (.tmp (s + 15)) (.tmp (s + 14)), type := 0, pos := p, after := #[{ on := 15, ground := .data }, { on := 14, ground := .data }, { on := 14, ground := .chain }, { on := 0, ground := .phase }, { on := 1, ground := .phase }, { on := 2, ground := .phase }, { on := 3, ground := .phase }, { on := 4, ground := .phase }, { on := 5, ground := .phase }, { on := 6, ground := .phase }, { on := 7, ground := .phase }, { on := 8, ground := .phase }, { on := 9, ground := .phase }, { on := 10, ground := .phase }, { on := 11, ground := .phase }, { on := 12, ground := .phase }, { on := 13, ground := .phase }, { on := 14, ground := .phase }], guard := none }]

def apVals (ob f bT n i x : Nat) (val v' : Value) (sz : Nat) : Nat → Value
  | 0 => ptr ob
  | 1 => ptr ob
  | 2 => .pointer (some ⟨ob, f, none⟩)
  | 3 => dn bT n
  | 4 => num i
  | 5 => ptr ob
  | 6 => ptr ob
  | 7 => .pointer (some ⟨ob, f, none⟩)
  | 8 => dn bT n
  | 9 => num i
  | 10 => .pointer (some ⟨bT, i, none⟩)
  | 11 => val
  | 12 => num x
  | 13 => .slice (some ⟨sz, 0, none⟩) 1 1
  | 14 => v'
  | 15 => .pointer (some ⟨bT, i, none⟩)
  | _ => undef

/-- The cells s, s + 1, .. are given. -/
def putAll (a : Array Value) (s : Nat) : List Value → Array Value
  | [] => a
  | v :: vs => putAll (a.setIfInBounds s v) (s + 1) vs
theorem putAll_get (a : Array Value) (s : Nat) (vs : List Value) (t : Nat) (hs : s + vs.length ≤ a.size) : (putAll a s vs)[t]? = if s ≤ t ∧ t < s + vs.length then vs[t - s]? else a[t]? := by
  induction vs generalizing a s with
  | nil => simp [putAll]; omega
  | cons v vs ih =>
    rw [putAll, ih _ _ (by simp at hs ⊢; omega)]
    simp only [List.length_cons] at hs ⊢
    by_cases e : t = s
    · subst e
      rw [if_neg (by omega), if_pos (by omega)]
      simp [show t < a.size by omega]
    · rw [Array.getElem?_setIfInBounds_ne (by omega)]
      by_cases h : s + 1 ≤ t ∧ t < s + 1 + vs.length
      · rw [if_pos h, if_pos (by omega), show t - s = (t - (s + 1)) + 1 by omega, List.getElem?_cons_succ]
      · rw [if_neg h, if_neg (by omega)]

/-- What the append has left. -/
def Ap (W : World) (n₀ x : Nat) (zs : List Nat) (val v' : Value) (V : World) : Prop :=
  V.ownsRow n₀ 3 1 v' (zs.length + 1) (zs.map num ++ [num x]) ∧ (W.alloc (.cells #[num x] 3)).grownBy V val.ownBlock ∧ (v'.ownBlock = val.ownBlock ∨ v'.ownBlock = some (W.heap.size + 1))

structure ApInv (W : World) (a : Act) (s ob f bT n i x n₀ : Nat) (zs : List Nat) (val : Value) (listed : Array Bool) (a' : Act) (V : World) (v' : Value) : Prop where
  size : a'.tmps.size = a.tmps.size
  defers : a'.defers = a.defers
  out : ∀ t, (t < s ∨ s + 16 ≤ t) → a'.tmps[t]? = a.tmps[t]?
  vals : ∀ k, k < 16 → listed.getD k false = true → a'.tmps[s + k]? = some (apVals ob f bT n i x val v' W.heap.size k)
  len : listed.size = 17
  last : listed.getD 16 false = true → ∀ k, k < 16 → listed.getD k false = true
  cells : listed.getD 16 false = false → V.cell? ⟨ob, f, none⟩ = some (dn bT n) ∧ V.cell? ⟨bT, i, none⟩ = some val ∧ V.frozen? ⟨bT, i, none⟩ = false
  p0 : listed.getD 13 false = false → V = W
  p1 : listed.getD 13 false = true → listed.getD 14 false = false → V = W.alloc (.cells #[num x] 3)
  p2 : listed.getD 14 false = true → listed.getD 16 false = false → Ap W n₀ x zs val v' V
  p3 : listed.getD 16 false = true → ∃ w2, Ap W n₀ x zs val v' w2 ∧ V = w2.setCell ⟨bT, i, none⟩ v'
  b14 : listed.getD 14 false = true → listed.getD 13 false = true

theorem getD_set_ne {listed : Array Bool} {i j : Nat} (h : i ≠ j) : (listed.setIfInBounds i true).getD j false = listed.getD j false := by
  simp only [Array.getD_eq_getD_getElem?]
  rw [Array.getElem?_setIfInBounds_ne h]
theorem getD_set_eq {listed : Array Bool} {i : Nat} (h : i < listed.size) : (listed.setIfInBounds i true).getD i false = true := by
  simp [h]

/-- A step that only gives a value: the world is as it was. -/
theorem ApInv.step {W : World} {a : Act} {s ob f bT n i x n₀ : Nat} {zs : List Nat} {val : Value} {listed : Array Bool} {a' : Act} {V : World} {v' : Value} (h : ApInv W a s ob f bT n i x n₀ zs val listed a' V v') (k : Nat) (hk : k < 16) (h13 : k ≠ 13) (h14 : k ≠ 14) (hs : s + 16 ≤ a.tmps.size) (hu : listed.getD 16 false = false) :
    ApInv W a s ob f bT n i x n₀ zs val (listed.setIfInBounds k true) (a'.put (some (s + k)) (apVals ob f bT n i x val v' W.heap.size k)) V v' := by
  refine ⟨by simp [Act.put, h.size], by simp [Act.put, h.defers], fun t ht => ?_, fun j hj hl => ?_, by simp [h.len], fun h16 => ?_, fun h16 => ?_, fun h' => ?_, fun h' h'' => ?_, fun h' h'' => ?_, fun h' => ?_, fun h' => ?_⟩
  · simp only [Act.put]
    rw [Array.getElem?_setIfInBounds_ne (by omega)]
    exact h.out t ht
  · simp only [Act.put]
    by_cases e : j = k
    · subst e
      simp [h.size, show s + j < a.tmps.size by omega]
    · rw [Array.getElem?_setIfInBounds_ne (by omega)]
      exact h.vals j hj (by rwa [getD_set_ne (by omega)] at hl)
  · rw [getD_set_ne (by omega), hu] at h16; cases h16
  · exact h.cells hu
  · exact h.p0 (by rwa [getD_set_ne (by omega)] at h')
  · exact h.p1 (by rwa [getD_set_ne (by omega)] at h') (by rwa [getD_set_ne (by omega)] at h'')
  · exact h.p2 (by rwa [getD_set_ne (by omega)] at h') hu
  · rw [getD_set_ne (by omega), hu] at h'; cases h'
  · rw [getD_set_ne (by omega)] at h' ⊢; exact h.b14 h'

theorem cell_alloc_low {W : World} (o : Obj) {b k : Nat} (h : b < W.heap.size) : (W.alloc o).cell? ⟨b, k, none⟩ = W.cell? ⟨b, k, none⟩ := World.cell?_of_block (w := W) (Below.heap_alloc W o b h)
theorem frozen_alloc_low {W : World} (o : Obj) {b k : Nat} (h : b < W.heap.size) : (W.alloc o).frozen? ⟨b, k, none⟩ = W.frozen? ⟨b, k, none⟩ := World.frozen?_of_block (w := W) (Below.heap_alloc W o b h)
/-- 'buildSlice'. -/
theorem ApInv.build {W : World} {a : Act} {s ob f bT n i x n₀ : Nat} {zs : List Nat} {val : Value} {listed : Array Bool} {a' : Act} {v' : Value} (h : ApInv W a s ob f bT n i x n₀ zs val listed a' W v') (h13 : listed.getD 13 false = false) (hu : listed.getD 16 false = false) (hs : s + 16 ≤ a.tmps.size) (hob : ob < W.heap.size) (hbT : bT < W.heap.size) :
    ApInv W a s ob f bT n i x n₀ zs val (listed.setIfInBounds 13 true) (a'.put (some (s + 13)) (apVals ob f bT n i x val v' W.heap.size 13)) (W.alloc (.cells #[num x] 3)) v' := by
  have f14 : listed.getD 14 false = false := by
    cases e : listed.getD 14 false with
    | false => rfl
    | true => rw [h.b14 e] at h13; cases h13
  refine ⟨by simp [Act.put, h.size], by simp [Act.put, h.defers], fun t ht => ?_, fun j hj hl => ?_, by simp [h.len], fun h16 => ?_, fun h16 => ?_, fun h' => ?_, fun h' h'' => ?_, fun h' h'' => ?_, fun h' => ?_, fun h' => ?_⟩
  · simp only [Act.put]
    rw [Array.getElem?_setIfInBounds_ne (by omega)]
    exact h.out t ht
  · simp only [Act.put]
    by_cases e : j = 13
    · subst e
      simp [h.size, show s + 13 < a.tmps.size by omega]
    · rw [Array.getElem?_setIfInBounds_ne (by omega)]
      exact h.vals j hj (by rwa [getD_set_ne (by omega)] at hl)
  · rw [getD_set_ne (by omega), hu] at h16; cases h16
  · rw [cell_alloc_low _ hob, cell_alloc_low _ hbT, frozen_alloc_low _ hbT]
    exact h.cells hu
  · rw [getD_set_eq (by rw [h.len]; omega)] at h'; cases h'
  · rfl
  · rw [getD_set_ne (by omega), f14] at h'; cases h'
  · rw [getD_set_ne (by omega), hu] at h'; cases h'
  · exact getD_set_eq (by rw [h.len]; omega)
/-- 'append'. -/
theorem ApInv.app {W : World} {a : Act} {s ob f bT n i x n₀ : Nat} {zs : List Nat} {val : Value} {listed : Array Bool} {a' : Act} {v' v2 : Value} {V w2 : World} (h : ApInv W a s ob f bT n i x n₀ zs val listed a' V v') (h14 : listed.getD 14 false = false) (hu : listed.getD 16 false = false) (l13 : listed.getD 13 false = true) (hs : s + 16 ≤ a.tmps.size) (hA : Ap W n₀ x zs val v2 w2)
    (hob : ob < W.heap.size) (hbT : bT < W.heap.size) (nob : some ob ≠ val.ownBlock) (nbT : some bT ≠ val.ownBlock) :
    ApInv W a s ob f bT n i x n₀ zs val (listed.setIfInBounds 14 true) (a'.put (some (s + 14)) v2) w2 v2 := by
  have hV := h.p1 l13 h14
  subst hV
  refine ⟨by simp [Act.put, h.size], by simp [Act.put, h.defers], fun t ht => ?_, fun j hj hl => ?_, by simp [h.len], fun h16 => ?_, fun h16 => ?_, fun h' => ?_, fun h' h'' => ?_, fun h' h'' => ?_, fun h' => ?_, fun h' => ?_⟩
  · simp only [Act.put]
    rw [Array.getElem?_setIfInBounds_ne (by omega)]
    exact h.out t ht
  · simp only [Act.put]
    by_cases e : j = 14
    · subst e
      simp [h.size, show s + 14 < a.tmps.size by omega, apVals]
    · rw [Array.getElem?_setIfInBounds_ne (by omega)]
      rw [h.vals j hj (by rwa [getD_set_ne (by omega)] at hl)]
      congr 1
      unfold apVals
      split <;> first | rfl | exact absurd rfl e
  · rw [getD_set_ne (by omega), hu] at h16; cases h16
  · obtain ⟨c1, c2, c3⟩ := h.cells hu
    have b1 := hA.2.1.block ob (by simp; omega) nob
    have b2 := hA.2.1.block bT (by simp; omega) nbT
    exact ⟨(World.cell?_of_block (w := W.alloc _) b1).trans c1, (World.cell?_of_block (w := W.alloc _) b2).trans c2, (World.frozen?_of_block (w := W.alloc _) b2).trans c3⟩
  · rw [getD_set_ne (by omega), l13] at h'; cases h'
  · rw [getD_set_eq (by rw [h.len]; omega)] at h''; cases h''
  · exact hA
  · rw [getD_set_ne (by omega), hu] at h'; cases h'
  · rw [getD_set_ne (by omega)]; exact l13
/-- The store. -/
theorem ApInv.store {W : World} {a : Act} {s ob f bT n i x n₀ : Nat} {zs : List Nat} {val : Value} {listed : Array Bool} {a' : Act} {v' : Value} {V : World} (h : ApInv W a s ob f bT n i x n₀ zs val listed a' V v') (hu : listed.getD 16 false = false) (hall : ∀ t, t < 16 → listed.getD t false = true) :
    ApInv W a s ob f bT n i x n₀ zs val (listed.setIfInBounds 16 true) a' (V.setCell ⟨bT, i, none⟩ v') v' := by
  have e16 := getD_set_eq (listed := listed) (i := 16) (by rw [h.len]; omega)
  refine ⟨h.size, h.defers, h.out, fun j hj hl => ?_, by simp [h.len], fun _ k hk => ?_, fun h16 => ?_, fun h' => ?_, fun h' h'' => ?_, fun h' h'' => ?_, fun h' => ?_, fun h' => ?_⟩
  · exact h.vals j hj (by rwa [getD_set_ne (by omega)] at hl)
  · rw [getD_set_ne (by omega)]; exact hall k hk
  · rw [e16] at h16; cases h16
  · rw [getD_set_ne (by omega), hall 13 (by omega)] at h'; cases h'
  · rw [getD_set_ne (by omega), hall 14 (by omega)] at h''; cases h''
  · rw [e16] at h''; cases h''
  · exact ⟨V, h.p2 (hall 14 (by omega)) hu, rfl⟩
  · rw [getD_set_ne (by omega)]; exact hall 13 (by omega)
theorem Yba.info3 : (Yba.prog.info? 3).map (fun i => (i.zero, i.size, i.bytes)) = some (some (.int .i64 0), 1, 8) := by kernel_rfl

theorem act_ext {a' : Act} {t : Array Value} {d : List Deferred} (h1 : a'.tmps = t) (h2 : a'.defers = d) : a' = ⟨t, d⟩ := by subst h1; subst h2; rfl

set_option maxHeartbeats 2000000 in
theorem append_region {id : Nat} {W : World} {a : Act} {Q : Exit → Act → World → Prop} {s f iT vT : Nat} {p : String} {ops : Array Oper} (hops : ops = apOps s f iT vT p) (ob bT n i x n₀ j N : Nat) (ad : Nat → Nat × Nat) (zs : Nat → List Nat) (val : Nat → Value)
    (hs : s + 16 ≤ a.tmps.size) (h9 : a.eval (.tmp 9) = ptr ob) (hi : a.eval (.tmp iT) = num i) (hv : a.eval (.tmp vT) = num x) (s9 : 9 < s) (si : iT < s) (sv : vT < s) (hf : f = 2 ∨ f = 3 ∨ f = 4 ∨ f = 5)
    (hT : Tabs W n₀ N ad zs val) (hj : j < N) (had : ad j = (bT, i)) (hin : i < n) (hob : ob < n₀) (hcell : W.cell? ⟨ob, f, none⟩ = some (dn bT n)) (hlen : (zs j).length ≤ 10000)
    (hQ : ∀ v' w2, Ap W.drew n₀ x (zs j) (val j) v' w2 → Q .normal ⟨putAll a.tmps s ((List.range 16).map (apVals ob f bT n i x (val j) v' W.heap.size)), a.defers⟩ (w2.setCell ⟨bT, i, none⟩ v')) :
    (Code.region id ops true).wp Yba.prog Q a W := by
  have hmix : Yba.prog.follows .mixedOrders = true := by kernel_rfl
  subst hops
  refine wp_region_any hmix (wpAny_inv (fun listed a' V => ∃ v', ApInv W.drew a s ob f bT n i x n₀ (zs j) (val j) listed a' V v') ?step ?fin _ _ _ _ ?init ?fuel)
  case fuel => show left (Array.replicate 17 false) ≤ 17; decide
  case init =>
    have hc := hT.cell j hj
    have hfz := hT.frozen j hj
    rw [had] at hc hfz
    have z : ∀ k, (Array.replicate (apOps s f iT vT p).size false).getD k false = false := fun k => by rw [Array.getD_eq_getD_getElem?, Array.getElem?_replicate]; split <;> rfl
    have zz : ∀ {q : Prop} (k : Nat), (Array.replicate (apOps s f iT vT p).size false).getD k false = true → q := fun k h => by rw [z k] at h; cases h
    exact ⟨.slice none 0 0, ⟨rfl, rfl, fun _ _ => rfl, fun k _ h => zz _ h, rfl, fun h => zz _ h, fun _ => ⟨hcell, hc, hfz⟩, fun _ => rfl, fun h => zz _ h, fun h => zz _ h, fun h => zz _ h, fun h => zz _ h⟩⟩
  case fin =>
    intro listed a' V ⟨v', hI⟩ hr
    have hall : ∀ k, k < 17 → listed.getD k false = true := by
      have step : ∀ k o, (apOps s f iT vT p)[k]? = some o → k < 17 → (o.after.toList.all (fun e => decide (e.on < k))) = true → (∀ t, t < k → listed.getD t false = true) → listed.getD k false = true := by
        intro k o ho hk ha hb
        cases hl : listed.getD k false with
        | true => rfl
        | false =>
          exfalso
          have hlen := hI.len
          have hm : k ∈ Region.ready .any (apOps s f iT vT p) listed := mem_ready.2 ⟨by simp only [Array.getD, show k < listed.size by omega, dite_true] at hl ⊢; exact hl, o, ho, fun e he _ => hb _ (by
            have := List.all_eq_true.1 ha e (by simpa using he)
            simpa using this)⟩
          rw [hr] at hm
          cases hm
      intro k
      induction k using Nat.strongRecOn with
      | _ k ih =>
        intro hk
        have ih' : ∀ t, t < k → listed.getD t false = true := fun t ht => ih t ht (by omega)
        clear ih
        obtain rfl | rfl | rfl | rfl | rfl | rfl | rfl | rfl | rfl | rfl | rfl | rfl | rfl | rfl | rfl | rfl | rfl : k = 0 ∨ k = 1 ∨ k = 2 ∨ k = 3 ∨ k = 4 ∨ k = 5 ∨ k = 6 ∨ k = 7 ∨ k = 8 ∨ k = 9 ∨ k = 10 ∨ k = 11 ∨ k = 12 ∨ k = 13 ∨ k = 14 ∨ k = 15 ∨ k = 16 := by omega
        all_goals exact step _ _ rfl hk rfl ih'
    obtain ⟨w2, hA, rfl⟩ := hI.p3 (hall 16 (by omega))
    have e : a' = ⟨putAll a.tmps s ((List.range 16).map (apVals ob f bT n i x (val j) v' W.heap.size)), a.defers⟩ := by
      refine act_ext ?_ hI.defers
      refine Array.ext_getElem? fun t => ?_
      rw [putAll_get _ _ _ _ (by rw [List.length_map, List.length_range]; exact hs), List.length_map, List.length_range]
      by_cases ht : s ≤ t ∧ t < s + 16
      · rw [if_pos ht]
        have := hI.vals (t - s) (by omega) (hall _ (by omega))
        rw [show s + (t - s) = t by omega] at this
        rw [this, List.getElem?_map, List.getElem?_range (by omega)]
        rfl
      · rw [if_neg ht]
        exact hI.out t (by omega)
    rw [e]
    exact hQ v' w2 hA
  case step =>
    intro listed a' V k ⟨v', hI⟩ hk
    obtain ⟨h1, o, ho, hdep⟩ := mem_ready.1 hk
    have hlt : k < 17 := (Array.getElem?_eq_some_iff.1 ho).1
    have get : ∀ t v, t < s → a.eval (.tmp t) = v → a'.tmps[t]?.getD undef = v := fun t v ht he => by
      rw [hI.out t (.inl ht)]
      simpa [Act.eval, Array.getD_eq_getD_getElem?] using he
    have e9 := get 9 _ s9 h9
    have ei := get iT _ si hi
    have ev := get vT _ sv hv
    clear get
    have u16 : ∀ t, t < 16 → listed.getD t true = false → listed.getD 16 false = false := fun t ht h => by
      cases h16 : listed.getD 16 false with
      | false => rfl
      | true =>
        have := hI.last h16 t ht
        have hl := hI.len
        simp [Array.getD, show t < listed.size by omega] at h this
        rw [h] at this; cases this
    have unl : ∀ t, t < 17 → listed.getD t true = false → listed.getD t false = false := fun t ht h => by
      have hl := hI.len
      simp only [Array.getD, show t < listed.size by omega, dite_true] at h ⊢
      exact h
    clear hQ hcell hk hmix h9 hi hv
    obtain rfl | rfl | rfl | rfl | rfl | rfl | rfl | rfl | rfl | rfl | rfl | rfl | rfl | rfl | rfl | rfl | rfl : k = 0 ∨ k = 1 ∨ k = 2 ∨ k = 3 ∨ k = 4 ∨ k = 5 ∨ k = 6 ∨ k = 7 ∨ k = 8 ∨ k = 9 ∨ k = 10 ∨ k = 11 ∨ k = 12 ∨ k = 13 ∨ k = 14 ∨ k = 15 ∨ k = 16 := by omega
    · have ho2 : (apOps s f iT vT p)[0]? = some { dst := some (s + 0), op := .move (.tmp 9), type := 50, pos := p, after := #[], guard := none } := rfl
      refine wpOp_step ho2 (fun K hK => ?_)
      obtain rfl := Option.some.inj (ho.symm.trans ho2)
      clear ho ho2 hdep
      go_simp
      exact hK _ _ ⟨v', hI.step 0 (by omega) (by omega) (by omega) hs (u16 0 (by omega) h1)⟩
    · have ho2 : (apOps s f iT vT p)[1]? = some { dst := some (s + 1), op := .nilCheck (.tmp (s + 0)), type := 0, pos := p, after := #[{ on := 0, ground := .data }], guard := none } := rfl
      refine wpOp_step ho2 (fun K hK => ?_)
      obtain rfl := Option.some.inj (ho.symm.trans ho2)
      have l0 : listed.getD 0 false = true := hdep { on := 0, ground := .data } (by simp) rfl
      have v0 := hI.vals 0 (by omega) l0
      simp only [apVals, Nat.add_zero] at v0
      clear ho ho2 hdep
      go_simp
      exact hK _ _ ⟨v', hI.step 1 (by omega) (by omega) (by omega) hs (u16 1 (by omega) h1)⟩
    · have ho2 : (apOps s f iT vT p)[2]? = some { dst := some (s + 2), op := .fieldAddr 56 (.tmp (s + 1)) f, type := 0, pos := p, after := #[{ on := 1, ground := .data }], guard := none } := rfl
      refine wpOp_step ho2 (fun K hK => ?_)
      obtain rfl := Option.some.inj (ho.symm.trans ho2)
      have l1 : listed.getD 1 false = true := hdep { on := 1, ground := .data } (by simp) rfl
      have v1 := hI.vals 1 (by omega) l1
      simp only [apVals] at v1
      clear ho ho2 hdep
      obtain rfl | rfl | rfl | rfl := hf
      all_goals
        go_simp
        exact hK _ _ ⟨v', hI.step 2 (by omega) (by omega) (by omega) hs (u16 2 (by omega) h1)⟩
    · have ho2 : (apOps s f iT vT p)[3]? = some { dst := some (s + 3), op := .load 52 (.tmp (s + 2)), type := 52, pos := p, after := #[{ on := 2, ground := .data }], guard := none } := rfl
      refine wpOp_step ho2 (fun K hK => ?_)
      obtain rfl := Option.some.inj (ho.symm.trans ho2)
      have l2 : listed.getD 2 false = true := hdep { on := 2, ground := .data } (by simp) rfl
      have v2 := hI.vals 2 (by omega) l2
      obtain ⟨c1, c2, c3⟩ := hI.cells (u16 3 (by omega) h1)
      simp only [apVals] at v2
      clear ho ho2 hdep
      go_simp
      exact hK _ _ ⟨v', hI.step 3 (by omega) (by omega) (by omega) hs (u16 3 (by omega) h1)⟩
    · have ho2 : (apOps s f iT vT p)[4]? = some { dst := some (s + 4), op := .move (.tmp iT), type := 3, pos := p, after := #[], guard := none } := rfl
      refine wpOp_step ho2 (fun K hK => ?_)
      obtain rfl := Option.some.inj (ho.symm.trans ho2)
      clear ho ho2 hdep
      go_simp
      exact hK _ _ ⟨v', hI.step 4 (by omega) (by omega) (by omega) hs (u16 4 (by omega) h1)⟩
    · have ho2 : (apOps s f iT vT p)[5]? = some { dst := some (s + 5), op := .move (.tmp 9), type := 50, pos := p, after := #[], guard := none } := rfl
      refine wpOp_step ho2 (fun K hK => ?_)
      obtain rfl := Option.some.inj (ho.symm.trans ho2)
      clear ho ho2 hdep
      go_simp
      exact hK _ _ ⟨v', hI.step 5 (by omega) (by omega) (by omega) hs (u16 5 (by omega) h1)⟩
    · have ho2 : (apOps s f iT vT p)[6]? = some { dst := some (s + 6), op := .nilCheck (.tmp (s + 5)), type := 0, pos := p, after := #[{ on := 5, ground := .data }], guard := none } := rfl
      refine wpOp_step ho2 (fun K hK => ?_)
      obtain rfl := Option.some.inj (ho.symm.trans ho2)
      have l5 : listed.getD 5 false = true := hdep { on := 5, ground := .data } (by simp) rfl
      have v5 := hI.vals 5 (by omega) l5
      simp only [apVals] at v5
      clear ho ho2 hdep
      go_simp
      exact hK _ _ ⟨v', hI.step 6 (by omega) (by omega) (by omega) hs (u16 6 (by omega) h1)⟩
    · have ho2 : (apOps s f iT vT p)[7]? = some { dst := some (s + 7), op := .fieldAddr 56 (.tmp (s + 6)) f, type := 0, pos := p, after := #[{ on := 6, ground := .data }], guard := none } := rfl
      refine wpOp_step ho2 (fun K hK => ?_)
      obtain rfl := Option.some.inj (ho.symm.trans ho2)
      have l6 : listed.getD 6 false = true := hdep { on := 6, ground := .data } (by simp) rfl
      have v6 := hI.vals 6 (by omega) l6
      simp only [apVals] at v6
      clear ho ho2 hdep
      obtain rfl | rfl | rfl | rfl := hf
      all_goals
        go_simp
        exact hK _ _ ⟨v', hI.step 7 (by omega) (by omega) (by omega) hs (u16 7 (by omega) h1)⟩
    · have ho2 : (apOps s f iT vT p)[8]? = some { dst := some (s + 8), op := .load 52 (.tmp (s + 7)), type := 52, pos := p, after := #[{ on := 7, ground := .data }], guard := none } := rfl
      refine wpOp_step ho2 (fun K hK => ?_)
      obtain rfl := Option.some.inj (ho.symm.trans ho2)
      have l7 : listed.getD 7 false = true := hdep { on := 7, ground := .data } (by simp) rfl
      have v7 := hI.vals 7 (by omega) l7
      obtain ⟨c1, c2, c3⟩ := hI.cells (u16 8 (by omega) h1)
      simp only [apVals] at v7
      clear ho ho2 hdep
      go_simp
      exact hK _ _ ⟨v', hI.step 8 (by omega) (by omega) (by omega) hs (u16 8 (by omega) h1)⟩
    · have ho2 : (apOps s f iT vT p)[9]? = some { dst := some (s + 9), op := .move (.tmp iT), type := 3, pos := p, after := #[], guard := none } := rfl
      refine wpOp_step ho2 (fun K hK => ?_)
      obtain rfl := Option.some.inj (ho.symm.trans ho2)
      clear ho ho2 hdep
      go_simp
      exact hK _ _ ⟨v', hI.step 9 (by omega) (by omega) (by omega) hs (u16 9 (by omega) h1)⟩
    · have ho2 : (apOps s f iT vT p)[10]? = some { dst := some (s + 10), op := .indexAddr 52 (.tmp (s + 8)) (.tmp (s + 9)), type := 0, pos := p, after := #[{ on := 8, ground := .data }, { on := 9, ground := .data }], guard := none } := rfl
      refine wpOp_step ho2 (fun K hK => ?_)
      obtain rfl := Option.some.inj (ho.symm.trans ho2)
      have l8 : listed.getD 8 false = true := hdep { on := 8, ground := .data } (by simp) rfl
      have v8 := hI.vals 8 (by omega) l8
      have l9 : listed.getD 9 false = true := hdep { on := 9, ground := .data } (by simp) rfl
      have v9 := hI.vals 9 (by omega) l9
      simp only [apVals] at v8 v9
      clear ho ho2 hdep
      go_simp
      exact hK _ _ ⟨v', hI.step 10 (by omega) (by omega) (by omega) hs (u16 10 (by omega) h1)⟩
    · have ho2 : (apOps s f iT vT p)[11]? = some { dst := some (s + 11), op := .load 58 (.tmp (s + 10)), type := 58, pos := p, after := #[{ on := 10, ground := .data }], guard := none } := rfl
      refine wpOp_step ho2 (fun K hK => ?_)
      obtain rfl := Option.some.inj (ho.symm.trans ho2)
      have l10 : listed.getD 10 false = true := hdep { on := 10, ground := .data } (by simp) rfl
      have v10 := hI.vals 10 (by omega) l10
      obtain ⟨c1, c2, c3⟩ := hI.cells (u16 11 (by omega) h1)
      simp only [apVals] at v10
      clear ho ho2 hdep
      go_simp
      exact hK _ _ ⟨v', hI.step 11 (by omega) (by omega) (by omega) hs (u16 11 (by omega) h1)⟩
    · have ho2 : (apOps s f iT vT p)[12]? = some { dst := some (s + 12), op := .move (.tmp vT), type := 3, pos := p, after := #[], guard := none } := rfl
      refine wpOp_step ho2 (fun K hK => ?_)
      obtain rfl := Option.some.inj (ho.symm.trans ho2)
      clear ho ho2 hdep
      go_simp
      exact hK _ _ ⟨v', hI.step 12 (by omega) (by omega) (by omega) hs (u16 12 (by omega) h1)⟩
    · have ho2 : (apOps s f iT vT p)[13]? = some { dst := some (s + 13), op := .buildSlice 58 1 #[(0, (.tmp (s + 12)))], type := 58, pos := p, after := #[{ on := 12, ground := .data }], guard := none } := rfl
      refine wpOp_step ho2 (fun K hK => ?_)
      obtain rfl := Option.some.inj (ho.symm.trans ho2)
      have l12 : listed.getD 12 false = true := hdep { on := 12, ground := .data } (by simp) rfl
      have v12 := hI.vals 12 (by omega) l12
      simp only [apVals] at v12
      clear ho ho2 hdep
      have f13 := unl 13 (by omega) h1
      have f16 := u16 13 (by omega) h1
      obtain rfl := hI.p0 f13
      have hc := hI.cells f16
      go_simp
      exact hK _ _ ⟨v', hI.build f13 f16 hs (Nat.lt_of_lt_of_le hob hT.size) (by have := hT.low j hj; rw [had] at this; exact Nat.lt_of_lt_of_le this hT.size)⟩
    · have ho2 : (apOps s f iT vT p)[14]? = some { dst := some (s + 14), op := .call { callee := .builtin .append, args := #[.tmp (s + 11), .tmp (s + 13)], argTypes := #[58, 58] }, type := 58, pos := p, after := #[{ on := 11, ground := .data }, { on := 13, ground := .data }], guard := none } := rfl
      refine wpOp_step ho2 (fun K hK => ?_)
      obtain rfl := Option.some.inj (ho.symm.trans ho2)
      have l11 : listed.getD 11 false = true := hdep { on := 11, ground := .data } (by simp) rfl
      have v11 := hI.vals 11 (by omega) l11
      have l13 : listed.getD 13 false = true := hdep { on := 13, ground := .data } (by simp) rfl
      have v13 := hI.vals 13 (by omega) l13
      simp only [apVals] at v11 v13
      clear ho ho2 hdep
      have f14 := unl 14 (by omega) h1
      have f16 := u16 14 (by omega) h1
      obtain rfl := hI.p1 l13 f14
      obtain ⟨i0, hi0, hz0, hz1, hz2⟩ := info_parts Yba.info3
      have hT' := (hT.drew.alloc (.cells #[num x] 3)).own j hj
      obtain ⟨v2, w2, hr, q1, q2, q3, q4⟩ := run_append_own_at (P := Yba.prog) (W.drew.alloc (.cells #[num x] 3)) n₀ 58 58 3 i0 _ 1 8 Yba.underlying58 hi0 hz0 hz1 hz2 rfl (by omega) (val j) (zs j).length _ hT' ⟨W.drew.heap.size, 0, none⟩ 1 1 [num x] rfl (cell_one_new _ _ _) (by simp [Value.oneCell']) (by unfold maxLen; omega) (by omega) (by have := hT.size; simp; omega)
      have hA : Ap W.drew n₀ x (zs j) (val j) v2 w2 := ⟨q1, q2, by simpa using q4⟩
      rw [if_pos (by rfl)]
      unfold Oper.wp execOp
      simp only [resolve, invoke, builtin, Sem.run_bind, Sem.run_pure, Result.andThen_ok, List.map_toArray, List.map_cons, List.map_nil, Act.eval, Array.getD_eq_getD_getElem?, v11, v13, Option.getD_some, hr]
      exact hK _ _ ⟨v2, hI.app f14 f16 l13 hs hA (Nat.lt_of_lt_of_le hob hT.size) (by have := hT.low j hj; rw [had] at this; exact Nat.lt_of_lt_of_le this hT.size) (fun e => by have := (own3 (hT.own j hj) e.symm).1; omega) (fun e => by have := (own3 (hT.own j hj) e.symm).1; have h2 := hT.low j hj; rw [had] at h2; simp only at h2; omega)⟩
    · have ho2 : (apOps s f iT vT p)[15]? = some { dst := some (s + 15), op := .indexAddr 52 (.tmp (s + 3)) (.tmp (s + 4)), type := 0, pos := p, after := #[{ on := 3, ground := .data }, { on := 4, ground := .data }, { on := 0, ground := .phase }, { on := 1, ground := .phase }, { on := 2, ground := .phase }, { on := 3, ground := .phase }, { on := 4, ground := .phase }, { on := 5, ground := .phase }, { on := 6, ground := .phase }, { on := 7, ground := .phase }, { on := 8, ground := .phase }, { on := 9, ground := .phase }, { on := 10, ground := .phase }, { on := 11, ground := .phase }, { on := 12, ground := .phase }, { on := 13, ground := .phase }, { on := 14, ground := .phase }], guard := none } := rfl
      refine wpOp_step ho2 (fun K hK => ?_)
      obtain rfl := Option.some.inj (ho.symm.trans ho2)
      have l3 : listed.getD 3 false = true := hdep { on := 3, ground := .data } (by simp) rfl
      have v3 := hI.vals 3 (by omega) l3
      have l4 : listed.getD 4 false = true := hdep { on := 4, ground := .data } (by simp) rfl
      have v4 := hI.vals 4 (by omega) l4
      simp only [apVals] at v3 v4
      clear ho ho2 hdep
      go_simp
      exact hK _ _ ⟨v', hI.step 15 (by omega) (by omega) (by omega) hs (u16 15 (by omega) h1)⟩
    · have ho2 : (apOps s f iT vT p)[16]? = some { dst := none, op := .store 58 (.tmp (s + 15)) (.tmp (s + 14)), type := 0, pos := p, after := #[{ on := 15, ground := .data }, { on := 14, ground := .data }, { on := 14, ground := .chain }, { on := 0, ground := .phase }, { on := 1, ground := .phase }, { on := 2, ground := .phase }, { on := 3, ground := .phase }, { on := 4, ground := .phase }, { on := 5, ground := .phase }, { on := 6, ground := .phase }, { on := 7, ground := .phase }, { on := 8, ground := .phase }, { on := 9, ground := .phase }, { on := 10, ground := .phase }, { on := 11, ground := .phase }, { on := 12, ground := .phase }, { on := 13, ground := .phase }, { on := 14, ground := .phase }], guard := none } := rfl
      refine wpOp_step ho2 (fun K hK => ?_)
      obtain rfl := Option.some.inj (ho.symm.trans ho2)
      have l15 : listed.getD 15 false = true := hdep { on := 15, ground := .data } (by simp) rfl
      have v15 := hI.vals 15 (by omega) l15
      have l14 : listed.getD 14 false = true := hdep { on := 14, ground := .data } (by simp) rfl
      have v14 := hI.vals 14 (by omega) l14
      simp only [apVals] at v15 v14
      have ph : ∀ t, t < 16 → listed.getD t false = true := fun t ht => by
        obtain rfl | h := Nat.lt_succ_iff_lt_or_eq.1 ht |>.symm
        · exact l15
        · exact hdep { on := t, ground := .phase } (by simp; omega) rfl
      clear ho ho2 hdep
      have f16 := unl 16 (by omega) h1
      obtain ⟨c1, c2, c3⟩ := hI.cells f16
      have hI' := hI.store f16 ph
      rcases (hI.p2 l14 f16).1.2 with ⟨e, _⟩ | ⟨g, cap, cur, e, _⟩
      all_goals
        subst e
        go_simp
        exact hK _ _ ⟨_, hI'⟩
end Order
end Go.Proofs.Ybulkcrmg
