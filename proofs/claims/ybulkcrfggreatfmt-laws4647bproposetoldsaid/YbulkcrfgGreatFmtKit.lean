/-
  SMALL LAWS FOR THE WALKS OF THIS SEAT: rows of memory known whole; 'make' with the new block told exactly; '==' on pointers.
-/
import Derived.Test.YbulkcrfgGreatFmtCards
import Derived.WalkKit
import Derived.ProofKit
import Derived.LaidEqlPtr
import Derived.Deep.Draws
import Derived.Laws.CopyOwn
namespace Go.Proofs.YbulkcrfgGreatFmt
open Go.RowKit
namespace Kit

/-- Block g holds the cells cs, of type t, not frozen. -/
def Row (w : World) (g : Nat) (t : TypeId) (cs : List Value) : Prop := w.heap[g]? = some (.cells cs.toArray t (0, 0))

theorem Row.cell {w : World} {g : Nat} {t : TypeId} {cs : List Value} (h : Row w g t cs) (j : Nat) : w.cell? ⟨g, j, none⟩ = cs[j]? := by
  rw [cell_of_row w g j _ _ _ h]; simp
theorem Row.frozen {w : World} {g : Nat} {t : TypeId} {cs : List Value} (h : Row w g t cs) (j : Nat) : w.frozen? ⟨g, j, none⟩ = false := frozen_of_row w g j _ _ h
theorem Row.lt {w : World} {g : Nat} {t : TypeId} {cs : List Value} (h : Row w g t cs) : g < w.heap.size := (Array.getElem?_eq_some_iff.1 h).1
theorem Row.set {w : World} {g : Nat} {t : TypeId} {cs : List Value} (h : Row w g t cs) (j : Nat) (v : Value) : Row (w.setCell ⟨g, j, none⟩ v) g t (cs.set j v) := by
  have := heap_setCell_same w g j _ _ v h
  unfold Row; rw [this]; simp
theorem Row.of_block {w w' : World} {g : Nat} {t : TypeId} {cs : List Value} (h : Row w g t cs) (e : w'.heap[g]? = w.heap[g]?) : Row w' g t cs := e.trans h
theorem Row.below {B : Nat} {w w' : World} {g : Nat} {t : TypeId} {cs : List Value} (h : Row w g t cs) (hb : Below B w w') (hg : g < B) : Row w' g t cs := h.of_block (hb.block g hg)
theorem Row.alloc {w : World} {g : Nat} {t : TypeId} {cs : List Value} (h : Row w g t cs) (o : Obj) : Row (w.alloc o) g t cs := h.of_block (Below.heap_alloc w o g h.lt)
theorem Row.setOther {w : World} {g : Nat} {t : TypeId} {cs : List Value} (h : Row w g t cs) (a : Addr) (v : Value) (ha : g ≠ a.block) : Row (w.setCell a v) g t cs := h.of_block (heap_setCell_other w a g v ha)

theorem Row.new (w : World) (t : TypeId) (cs : List Value) (g : Nat) (hg : g = w.heap.size) : Row (w.alloc (.cells cs.toArray t)) g t cs := by
  subst hg; unfold Row; rw [heap_alloc_new]
theorem Row.row {w : World} {g : Nat} {t : TypeId} {cs ds : List Value} (h : Row w g t cs) (_h2 : cs.length = ds.length) : Row (w.setRow g ds.toArray) g t ds := setRow_heap w g _ _ t _ h
theorem Row.rowOther {w : World} {g k : Nat} {t : TypeId} {cs : List Value} (h : Row w k t cs) (hk : k ≠ g) (ds : Array Value) : Row (w.setRow g ds) k t cs := h.of_block (setRow_other w g k ds hk)
theorem Row.drewN {w : World} {g : Nat} {t : TypeId} {cs : List Value} (h : Row w g t cs) (n : Nat) : Row (w.drewN n) g t cs := h

/-- Outside block b the world w' is as w was. -/
structure Only (b : Nat) (w w' : World) : Prop where
  os : w'.os = w.os
  tape : w'.tape = w.tape
  output : w'.output = w.output
  size : w'.heap.size = w.heap.size
  block : ∀ k, k ≠ b → w'.heap[k]? = w.heap[k]?
theorem Only.refl (b : Nat) (w : World) : Only b w w := ⟨rfl, rfl, rfl, rfl, fun _ _ => rfl⟩
theorem Only.trans {b : Nat} {u v w : World} (h : Only b u v) (k : Only b v w) : Only b u w :=
  ⟨k.os.trans h.os, k.tape.trans h.tape, k.output.trans h.output, k.size.trans h.size, fun i hi => (k.block i hi).trans (h.block i hi)⟩
theorem Only.drewN {b : Nat} {u v : World} (h : Only b u v) (n : Nat) : Only b u (v.drewN n) := h.trans ⟨rfl, rfl, rfl, rfl, fun _ _ => rfl⟩
theorem Only.drew {b : Nat} {u v : World} (h : Only b u v) : Only b u v.drew := h.trans ⟨rfl, rfl, rfl, rfl, fun _ _ => rfl⟩
theorem Only.setCell {b : Nat} {u v : World} (h : Only b u v) (o : Nat) (x : Value) : Only b u (v.setCell ⟨b, o, none⟩ x) :=
  h.trans ⟨rfl, rfl, rfl, by simp [World.setCell], fun k hk => heap_setCell_other _ _ _ _ hk⟩

theorem Only.cell {b : Nat} {w w' : World} (h : Only b w w') (k o : Nat) (hk : k ≠ b) : w'.cell? ⟨k, o, none⟩ = w.cell? ⟨k, o, none⟩ := World.cell?_of_block (w := w) (h.block k hk)
theorem Only.frozen {b : Nat} {w w' : World} (h : Only b w w') (k o : Nat) (hk : k ≠ b) : w'.frozen? ⟨k, o, none⟩ = w.frozen? ⟨k, o, none⟩ := World.frozen?_of_block (w := w) (h.block k hk)


theorem Row.only {b : Nat} {w w' : World} {g : Nat} {t : TypeId} {cs : List Value} (h : Row w g t cs) (ho : Only b w w') (hg : g ≠ b) : Row w' g t cs := h.of_block (ho.block g hg)
theorem Only.setRow {b : Nat} {u v : World} (h : Only b u v) (cs : Array Value) : Only b u (v.setRow b cs) :=
  h.trans ⟨rfl, rfl, rfl, by simp [World.setRow], fun k hk => setRow_other v b k cs hk⟩
theorem Only.below {B b : Nat} {w w' : World} (h : Only b w w') (hb : B ≤ b) : Below B w w' := ⟨h.os, h.tape, h.output, by rw [h.size]; exact Nat.le_refl _, fun k hk => h.block k (by omega)⟩

/-- 'copy(dst, src)', dst a row of n cells known whole, src n cells long: the row is written over. -/
theorem wpList_copy_full {P : Program} {w : World} {ops : Array Oper} {rest : List Oper} {o : Oper} {a : Act} {Q : Exit → Act → World → Prop} (hgd : o.guard = none) (d s : Operand) (dT sT : TypeId)
    (ho : o.op = .call { callee := .builtin .copy, args := #[d, s], argTypes := #[dT, sT] }) (elem : TypeId) (hu : P.underlying dT = some (.slice elem)) (hsz : (P.info? elem).map (·.size) = some 1)
    (g dCap : Nat) (ad : Addr) (n sCap : Nat) (hd : a.eval d = .slice (some ⟨g, 0, none⟩) n dCap) (hs : a.eval s = .slice (some ad) n sCap)
    (cur : List Value) (t : TypeId) (hg : Row w g t cur) (hcur : cur.length = n) (cs : List Value) (hn : cs.length = n)
    (hsrc : ∀ j v, cs[j]? = some v → w.cell? (ad.add j) = some v) (h1 : ∀ v ∈ cs, v.oneCell' = true)
    (h : ∀ w', Only g w w' → Row w' g t cs → wpList P ops Q rest (a.put o.dst (.int .i64 n)) w') : wpList P ops Q (o :: rest) a w := by
  refine wpList_copy_own hgd d s dT sT ho elem hu hsz g 0 n dCap ad n sCap hd hs cur.toArray t hg cs (by simp [hn]) hsrc (by simp [hn, hcur]) h1 ?_
  have e : (cur.toArray.toList.take 0 ++ (cs ++ cur.toArray.toList.drop (0 + cs.length))) = cs := by
    simp
    omega
  rw [e, hn]
  exact h _ ((Only.refl _ _).setRow _) (hg.row (by omega))

/-- 'make([]T, n, m)': the world with one block more, told whole. -/
theorem wpList_make_new {P : Program} (w : World) {ops : Array Oper} {rest : List Oper} {o : Oper} {a : Act} {Q : Exit → Act → World → Prop}
    (hg : o.guard = none) (l c : Operand) (t : TypeId) (hop : o.op = Op.makeSlice t l c)
    (e : TypeId) (i : TypeInfo) (z : Value) (size : Nat) (h1 : P.underlying t = some (.slice e)) (h2 : P.info? e = some i) (h3 : i.zero = some z) (h4 : i.size = size)
    (kl kc : IntKind) (L C : Int) (n m : Nat) (hl : a.eval l = .int kl L) (hc : a.eval c = .int kc C) (hL : L = (n : Int)) (hC : C = (m : Int)) (hnm : n ≤ m) (b2 : i.bytes * m ≤ 281474976710656) (b3 : m ≤ maxLen)
    (hK : ∀ w', w'.heap.size = w.heap.size + 1 → Row w' w.heap.size e (madeCells z.cells (m * size)).toList → Below w.heap.size w w' → wpList P ops Q rest (a.put o.dst (.slice (some ⟨w.heap.size, 0, none⟩) n m)) w') :
    wpList P ops Q (o :: rest) a w := by
  refine wpList_plain hg fun K hK' => ?_
  subst hL; subst hC; subst h4
  have h63 : (m : Int) ≤ 9223372036854775807 := by unfold maxLen at b3; omega
  have hb' : (i.bytes : Int) * (m : Int) ≤ 281474976710656 := by
    have h : ((i.bytes * m : Nat) : Int) ≤ 281474976710656 := by omega
    rwa [Int.natCast_mul] at h
  have hrun := run_make (P := P) w t e i z h1 h2 h3 kl kc n m (by omega) (by omega) hb' h63
  simp only [Int.toNat_natCast] at hrun
  unfold Oper.wp
  simp [execOp, hop, hl, hc, hrun, Result.andThen]
  refine hK' _ _ (hK _ (by simp) ?_ ((Below.refl _ _).alloc (Nat.le_refl _) _))
  unfold Row
  rw [heap_alloc_new]

theorem ownsRow_mono {w : World} {base base' : Nat} {e : TypeId} {size : Nat} {v : Value} {n : Nat} {xs : List Value} (h : w.ownsRow base e size v n xs) (hb : base' ≤ base) : w.ownsRow base' e size v n xs := by
  obtain ⟨h1, h2⟩ := h
  refine ⟨h1, ?_⟩
  rcases h2 with h2 | ⟨g, cap, cur, hv, hg, r⟩
  · exact .inl h2
  · exact .inr ⟨g, cap, cur, hv, by omega, r⟩
theorem grownBy_none {w w' : World} (h : w.grownBy w' none) (row : Option Nat) : w.grownBy w' row := ⟨h.os, h.tape, h.output, h.size, fun k hk _ => h.block k hk (by simp)⟩

theorem ownsRow_block {w : World} {base : Nat} {e : TypeId} {size g n cap : Nat} {xs : List Value} (h : w.ownsRow base e size (.slice (some ⟨g, 0, none⟩) n cap) n xs) : ∃ cur, w.heap[g]? = some (.cells cur e (0, 0)) := by
  rcases h.2 with ⟨h', _⟩ | ⟨g', cap', cur, h', _, hg, _⟩
  · cases h'
  · cases h'; exact ⟨cur, hg⟩
theorem ownsRow_of_block {w w' : World} {base : Nat} {e : TypeId} {size g n cap : Nat} {xs : List Value} (h : w.ownsRow base e size (.slice (some ⟨g, 0, none⟩) n cap) n xs) (hb : w'.heap[g]? = w.heap[g]?) :
    w'.ownsRow base e size (.slice (some ⟨g, 0, none⟩) n cap) n xs := by
  refine ⟨h.1, ?_⟩
  rcases h.2 with ⟨h', _⟩ | ⟨g', cap', cur, h', h2, hg, r⟩
  · cases h'
  · cases h'; exact .inr ⟨g, cap, cur, rfl, h2, hb.trans hg, r⟩
/-- A row of one type is no row of another. -/
theorem Row.ne_own {w : World} {base : Nat} {e : TypeId} {size g n cap : Nat} {xs cs : List Value} {k : Nat} {t : TypeId} (hr : Row w k t cs) (h : w.ownsRow base e size (.slice (some ⟨g, 0, none⟩) n cap) n xs) (ht : t ≠ e) : k ≠ g := by
  intro he
  subst he
  obtain ⟨cur, hg⟩ := ownsRow_block h
  unfold Row at hr
  rw [hg] at hr
  cases hr
  exact ht rfl
theorem run_eql_chan_nil {P : Program} (w : World) {t e : TypeId} {dir : ChanDir} (c : Nat) (h : P.underlying t = some (.chan dir e)) : (binOp .eql t (.chan (some c)) (.chan none)).run P w = .ok (.bool false) w := by
  have h1 : ∀ d : Nat, (Op.equalIn (d + 1) t (.chan (some c)) (.chan none)).run P w = .ok false w := fun d => by simp [Op.equalIn, run_underlying h]
  simp only [binOp]
  simp [Op.equal, Op.maxDepth, h1 9999]

/-- 'append' of one or more cells to a row of the call's own: WHERE THE NEW ROW LIES IS TOLD: in the old block, or in a new one. -/
theorem wpList_append_told {P : Program} (w : World) {ops : Array Oper} {rest : List Oper} {o : Oper} {a : Act} {Q : Exit → Act → World → Prop}
    (hgd : o.guard = none) (s x : Operand) (t : TypeId) (hop : o.op = Op.call { callee := Callee.builtin Builtin.append, args := #[s, x], argTypes := #[t, t] })
    (base : Nat) (e : TypeId) (i : TypeInfo) (z : Value) (size bytes : Nat) (h1 : P.underlying t = some (.slice e)) (h2 : P.info? e = some i) (h3 : i.zero = some z) (h4 : i.size = size) (h5 : i.bytes = bytes) (h6 : z.cells.size = size) (h7 : 0 < size)
    (g n cap : Nat) (xs : List Value) (hs : a.eval s = .slice (some ⟨g, 0, none⟩) n cap) (hown : w.ownsRow base e size (.slice (some ⟨g, 0, none⟩) n cap) n xs)
    (ad : Addr) (m c : Nat) (news : List Value) (hx : a.eval x = .slice (some ad) m c) (hn : news.length = m * size) (hc : ∀ j u, news[j]? = some u → w.cell? (ad.add j) = some u) (h1c : ∀ u ∈ news, u.oneCell' = true)
    (hm : 0 < m) (b1 : n + m ≤ maxLen) (b2 : (n + m) * bytes ≤ 140737488355328) (b3 : base ≤ w.heap.size)
    (hK : ∀ g2 cap2 w', w'.ownsRow base e size (.slice (some ⟨g2, 0, none⟩) (n + m) cap2) (n + m) (xs ++ news) → w.grownBy w' (some g) → (g2 = g ∨ w.heap.size ≤ g2) → wpList P ops Q rest (a.put o.dst (.slice (some ⟨g2, 0, none⟩) (n + m) cap2)) w') :
    wpList P ops Q (o :: rest) a w := by
  by_cases hf : n + m ≤ cap
  · exact wpList_append_fits w hgd s x t hop base e i size h1 h2 h4 g n cap xs hs hown ad m c news hx hn hc h1c hf (fun w' ho hg => hK g cap w' ho hg (.inl rfl))
  · refine wpList_append_grows w hgd s x t hop e i z size bytes h1 h2 h3 h4 h5 h6 h7 (some ⟨g, 0, none⟩) n cap xs hs (by simp) hown.1 (fun b hb j u hu => ?_) ad m c news hx hn hc h1c (by omega) b1 b2 ?_
    · injection hb with hb
      subst hb
      exact hown.cells rfl j u hu
    · intro v' w' ho hg
      rcases ho.2 with ⟨_, h⟩ | ⟨g2, cap2, cur, rfl, hg2, r⟩
      · omega
      · exact hK g2 cap2 w' (ownsRow_mono ho b3) (grownBy_none hg _) (.inr hg2)

theorem run_equalIn_ptr_same {P : Program} (w : World) {tp te : TypeId} {j : TypeInfo} (a : Addr) (hp : P.underlying tp = some (.pointer te)) (hte : P.info? te = some j) (d : Nat) :
    (Op.equalIn (d + 1) tp (.pointer (some a)) (.pointer (some a))).run P w = .ok true w := by
  simp [Op.equalIn, run_underlying hp, sizeOf, typeInfo, hte, run_sameAddr_same]
theorem run_equalIn_ptr_other {P : Program} (w : World) {tp te : TypeId} {j : TypeInfo} {a b : Addr} {ca cb : Array Value} {ta tb : TypeId} (hp : P.underlying tp = some (.pointer te)) (hte : P.info? te = some j) (hsz : j.size ≠ 0)
    (hne : a ≠ b) (ha : w.heap[a.block]? = some (.cells ca ta (0, 0))) (hb : w.heap[b.block]? = some (.cells cb tb (0, 0))) (d : Nat) :
    (Op.equalIn (d + 1) tp (.pointer (some a)) (.pointer (some b))).run P w = .ok false w := by
  simp [Op.equalIn, run_underlying hp, sizeOf, typeInfo, hte, hsz, run_sameAddr_other w hne ha hb]
theorem run_neq_ptr_same {P : Program} (w : World) {tp te : TypeId} {j : TypeInfo} (a : Addr) (hp : P.underlying tp = some (.pointer te)) (hte : P.info? te = some j) :
    (binOp .neq tp (.pointer (some a)) (.pointer (some a))).run P w = .ok (.bool false) w := by
  simp only [binOp]
  simp [Op.equal, Op.maxDepth, run_equalIn_ptr_same w a hp hte 9999]
theorem run_eql_ptr_same {P : Program} (w : World) {tp te : TypeId} {j : TypeInfo} (a : Addr) (hp : P.underlying tp = some (.pointer te)) (hte : P.info? te = some j) :
    (binOp .eql tp (.pointer (some a)) (.pointer (some a))).run P w = .ok (.bool true) w := by
  simp only [binOp]
  simp [Op.equal, Op.maxDepth, run_equalIn_ptr_same w a hp hte 9999]
/-- Two pointers to the heads of two known rows. -/
theorem run_neq_ptr_rows {P : Program} (w : World) {tp te : TypeId} {j : TypeInfo} {g h : Nat} {tg th : TypeId} {cg ch : List Value} (hp : P.underlying tp = some (.pointer te)) (hte : P.info? te = some j) (hsz : j.size ≠ 0)
    (hne : g ≠ h) (ha : Row w g tg cg) (hb : Row w h th ch) :
    (binOp .neq tp (.pointer (some ⟨g, 0, none⟩)) (.pointer (some ⟨h, 0, none⟩))).run P w = .ok (.bool true) w := by
  simp only [binOp]
  simp [Op.equal, Op.maxDepth, run_equalIn_ptr_other w hp hte hsz (a := ⟨g, 0, none⟩) (b := ⟨h, 0, none⟩) (fun e => hne (congrArg Addr.block e)) ha hb 9999]
theorem run_eql_ptr_rows {P : Program} (w : World) {tp te : TypeId} {j : TypeInfo} {g h : Nat} {tg th : TypeId} {cg ch : List Value} (hp : P.underlying tp = some (.pointer te)) (hte : P.info? te = some j) (hsz : j.size ≠ 0)
    (hne : g ≠ h) (ha : Row w g tg cg) (hb : Row w h th ch) :
    (binOp .eql tp (.pointer (some ⟨g, 0, none⟩)) (.pointer (some ⟨h, 0, none⟩))).run P w = .ok (.bool false) w := by
  simp only [binOp]
  simp [Op.equal, Op.maxDepth, run_equalIn_ptr_other w hp hte hsz (a := ⟨g, 0, none⟩) (b := ⟨h, 0, none⟩) (fun e => hne (congrArg Addr.block e)) ha hb 9999]
end Kit
end Go.Proofs.YbulkcrfgGreatFmt
