/-
  (*Members).follow.
-/
import Derived.Test.YbulkcrmgDoorIter
import Derived.LoopN
namespace Go.Proofs.YbulkcrmgDoor
open Go.RowKit
namespace Follow
open Kit

/-- A target's own blocks. -/
structure Tg (W : World) (r bM bF n : Nat) (S : List Nat × List Nat × Bool) : Prop where
  role : IsRole W r bM bF n S.2.2
  mem : Row W bM 36 (S.1.map u)
  frs : Row W bF 36 (S.2.1.map u)
  nM : S.1.length = n
  nF : S.2.1.length = n
  okM : ∀ (j x : Nat), S.1[j]? = some x → x ≠ 0 ∧ x < 18446744073709551616
  okF : ∀ (j x : Nat), S.2.1[j]? = some x → x ≠ 0 ∧ x < 18446744073709551616
/-- The Members and its row of changed roles. -/
structure Mm (W : World) (n₀ m bud : Nat) (cv : Value) (cs : List Value) : Prop where
  mm : IsMem W m bud cv
  own : W.ownsRow n₀ 23 1 cv cs.length cs
  size : n₀ ≤ W.heap.size
theorem St.of {W : World} {n₀ m bud r bM bF n : Nat} {S : List Nat × List Nat × Bool} {cv : Value} {cs : List Value} (h : Tg W r bM bF n S) (k : Mm W n₀ m bud cv cs) : St W n₀ m bud r bM bF n S.1 S.2.1 S.2.2 cv cs :=
  ⟨h.role, h.mem, h.frs, k.mm, k.own, h.nM, h.nF, h.okM, h.okF, k.size⟩
theorem St.tg {W : World} {n₀ m bud r bM bF n : Nat} {S : List Nat × List Nat × Bool} {cv : Value} {cs : List Value} (h : St W n₀ m bud r bM bF n S.1 S.2.1 S.2.2 cv cs) : Tg W r bM bF n S := ⟨h.role, h.mem, h.frs, h.nM, h.nF, h.okM, h.okF⟩
theorem St.mmm {W : World} {n₀ m bud r bM bF n : Nat} {M F : List Nat} {q : Bool} {cv : Value} {cs : List Value} (h : St W n₀ m bud r bM bF n M F q cv cs) : Mm W n₀ m bud cv cs := ⟨h.mm, h.own, h.size⟩
theorem Tg.fr {W W' : World} {r bM bF n : Nat} {S : List Nat × List Nat × Bool} {bs : List Nat} {cv cv' : Value} (h : Tg W r bM bF n S) (hf : Fr bs cv cv' W W') (h1 : r ∉ bs) (h2 : bM ∉ bs) (h3 : bF ∉ bs) {n₀ k : Nat} {cs : List Value} (ho : W.ownsRow n₀ 23 1 cv k cs) : Tg W' r bM bF n S := by
  obtain ⟨⟨rc, a1, a2⟩, hM, hF, r1⟩ := h
  exact ⟨⟨rc, hf.row a1 h1 (own_ne ho a1 (by decide)), a2⟩, hf.row hM h2 (own_ne ho hM (by decide)), hf.row hF h3 (own_ne ho hF (by decide)), r1, ‹_›, ‹_›, ‹_›⟩
theorem Mm.fr {W W' : World} {n₀ m bud : Nat} {cv : Value} {cs : List Value} {bs : List Nat} (h : Mm W n₀ m bud cv cs) (hf : Fr bs cv cv W W') (h1 : m ∉ bs) (ho : W'.ownsRow n₀ 23 1 cv cs.length cs) : Mm W' n₀ m bud cv cs := by
  obtain ⟨⟨mc, a1, a2⟩, own, sz⟩ := h
  exact ⟨⟨mc, hf.row a1 h1 (own_ne own a1 (by decide)), a2⟩, ho, Nat.le_trans sz hf.size⟩

/-- A slice of words that is read: its memory lies from lo on, in a row of words. -/
def Src (W : World) (lo : Nat) (a : Option Addr) (len : Nat) (f : Nat → Nat) : Prop :=
  Reads W.heap.size W a len f ∧ ∀ x, a = some x → lo ≤ x.block ∧ ∃ c, W.heap[x.block]? = some (.cells c 36 (0, 0))
theorem Src.fr {W W' : World} {lo : Nat} {a : Option Addr} {len : Nat} {f : Nat → Nat} {bs : List Nat} {cv cv' : Value} (h : Src W lo a len f) (hf : Fr bs cv cv' W W') (hb : ∀ x, a = some x → x.block ∉ bs) {n₀ k : Nat} {cs : List Value} (ho : W.ownsRow n₀ 23 1 cv k cs) : Src W' lo a len f := by
  have key : ∀ x, a = some x → ∃ c, W.heap[x.block]? = some (.cells c 36 (0, 0)) ∧ W'.heap[x.block]? = some (.cells c 36 (0, 0)) := fun x e => by
    obtain ⟨_, c, hc⟩ := h.2 x e
    refine ⟨c, hc, hf.block _ _ hc (hb x e) (fun e2 => ?_)⟩
    obtain ⟨_, c2, hc2⟩ := own_block ho e2.symm
    rw [hc] at hc2; cases hc2
  refine ⟨fun hp => ?_, fun x e => ?_⟩
  · obtain ⟨b, off, e, hlt, hc⟩ := h.1 hp
    obtain ⟨c, k1, k2⟩ := key _ e
    have k3 : W'.heap[b]? = W.heap[b]? := k2.trans k1.symm
    exact ⟨b, off, e, Nat.lt_of_lt_of_le hlt hf.size, fun i hi => (World.cell?_of_block (w := W) k3).trans (hc i hi)⟩
  · obtain ⟨c, _, k2⟩ := key x e
    exact ⟨(h.2 x e).1, c, k2⟩

/-- The whole state while follow goes on. -/
structure G (B n₀ m bud rr bI bX ro fb n : Nat) (rcs oc : List Value) (a : Option Addr) (cap : Nat) (f : Nat → Nat) (aC : Option Addr) (lenC : Nat) (fC : Nat → Nat) (W : World) (cv : Value) (cs : List Value) (S0 S1 SH : List Nat × List Nat × Bool) : Prop where
  t0 : Tg W B (B + 1) (B + 2) n S0
  t1 : Tg W (B + 3) (B + 4) (B + 5) n S1
  th : Tg W (B + 6) (B + 7) (B + 8) n SH
  mm : Mm W n₀ m bud cv cs
  hrr : Row W rr 34 rcs
  hI : Row W bI 23 [ptr B, ptr (B + 3)]
  hX : Row W bX 39 [ptr (B + 6), ptr ro]
  ho : Row W ro 34 oc
  hbud : Row W bud 43 (budCells 0)
  hfb : Row W fb 29 [.map none, .slice a n cap, .int .i64 0, .int .i64 0]
  src : Src W (B + 9) a n f
  srcC : Src W (B + 9) aC lenC fC
  b : B + 9 ≤ rr ∧ B + 9 ≤ bI ∧ B + 9 ≤ bX ∧ B + 9 ≤ ro ∧ B + 9 ≤ bud ∧ B + 9 ≤ fb ∧ B + 9 ≤ m ∧ bI < n₀
theorem G.next {B n₀ m bud rr bI bX ro fb n : Nat} {rcs oc : List Value} {a : Option Addr} {cap : Nat} {f : Nat → Nat} {aC : Option Addr} {lenC : Nat} {fC : Nat → Nat} {W W' : World} {cv cv' : Value} {cs cs' : List Value} {S0 S1 SH S0' S1' SH' : List Nat × List Nat × Bool} {bs : List Nat}
    (h : G B n₀ m bud rr bI bX ro fb n rcs oc a cap f aC lenC fC W cv cs S0 S1 SH) (hf : Fr bs cv cv' W W') (hbs : ∀ b ∈ bs, b < B + 9 ∨ b = m) (mm' : Mm W' n₀ m bud cv' cs') (t0' : Tg W' B (B + 1) (B + 2) n S0') (t1' : Tg W' (B + 3) (B + 4) (B + 5) n S1') (th' : Tg W' (B + 6) (B + 7) (B + 8) n SH') :
    G B n₀ m bud rr bI bX ro fb n rcs oc a cap f aC lenC fC W' cv' cs' S0' S1' SH' := by
  obtain ⟨t0, t1, th, ⟨⟨mc, hm, hm2⟩, own, sz⟩, hrr, hI, hX, ho, hbud, hfb, src, srcC, b1, b2, b3, b4, b5, b6, b7, b8⟩ := h
  have nb : ∀ k, B + 9 ≤ k → k ≠ m → k ∉ bs := fun k hk hkm hb => by rcases hbs k hb with h | h <;> omega
  refine ⟨t0', t1', th', mm', hf.row hrr (nb _ b1 (Row.ne hrr hm (by decide))) (own_ne own hrr (by decide)), hf.row hI (nb _ b2 (Row.ne hI hm (by decide))) (fun e => ?_), hf.row hX (nb _ b3 (Row.ne hX hm (by decide))) (own_ne own hX (by decide)), hf.row ho (nb _ b4 (Row.ne ho hm (by decide))) (own_ne own ho (by decide)), hf.row hbud (nb _ b5 (Row.ne hbud hm (by decide))) (own_ne own hbud (by decide)), hf.row hfb (nb _ b6 (Row.ne hfb hm (by decide))) (own_ne own hfb (by decide)), src.fr hf (fun x e => nb _ (src.2 x e).1 (fun e2 => ?_)) own, srcC.fr hf (fun x e => nb _ (srcC.2 x e).1 (fun e2 => ?_)) own, b1, b2, b3, b4, b5, b6, b7, b8⟩
  · have := (own_block own e.symm).1
    omega
  · obtain ⟨_, c, hc⟩ := src.2 x e
    unfold Row at hm
    rw [e2, hm] at hc; cases hc
  · obtain ⟨_, c, hc⟩ := srcC.2 x e
    unfold Row at hm
    rw [e2, hm] at hc; cases hc

theorem Tg.drew {W : World} {r bM bF n : Nat} {S : List Nat × List Nat × Bool} (h : Tg W r bM bF n S) : Tg W.drew r bM bF n S := ⟨h.role, h.mem, h.frs, h.nM, h.nF, h.okM, h.okF⟩
theorem G.drew {B n₀ m bud rr bI bX ro fb n : Nat} {rcs oc : List Value} {a : Option Addr} {cap : Nat} {f : Nat → Nat} {aC : Option Addr} {lenC : Nat} {fC : Nat → Nat} {W : World} {cv : Value} {cs : List Value} {S0 S1 SH : List Nat × List Nat × Bool}
    (h : G B n₀ m bud rr bI bX ro fb n rcs oc a cap f aC lenC fC W cv cs S0 S1 SH) : G B n₀ m bud rr bI bX ro fb n rcs oc a cap f aC lenC fC W.drew cv cs S0 S1 SH :=
  ⟨h.t0.drew, h.t1.drew, h.th.drew, ⟨h.mm.mm, h.mm.own, h.mm.size⟩, h.hrr, h.hI, h.hX, h.ho, h.hbud, h.hfb, h.src, h.srcC, h.b⟩
theorem G.alloc {B n₀ m bud rr bI bX ro fb n : Nat} {rcs oc : List Value} {a : Option Addr} {cap : Nat} {f : Nat → Nat} {aC : Option Addr} {lenC : Nat} {fC : Nat → Nat} {W : World} {cv : Value} {cs : List Value} {S0 S1 SH : List Nat × List Nat × Bool}
    (h : G B n₀ m bud rr bI bX ro fb n rcs oc a cap f aC lenC fC W cv cs S0 S1 SH) (o : Obj) : G B n₀ m bud rr bI bX ro fb n rcs oc a cap f aC lenC fC (W.alloc o) cv cs S0 S1 SH := by
  have hF : Fr [] cv cv W (W.alloc o) := Fr.alloc W o
  exact h.next hF (fun b hb => by simp at hb) (h.mm.fr hF (by simp) (h.mm.own.alloc o)) (h.t0.fr hF (by simp) (by simp) (by simp) h.mm.own) (h.t1.fr hF (by simp) (by simp) (by simp) h.mm.own) (h.th.fr hF (by simp) (by simp) (by simp) h.mm.own)

/-- What the roles' rows hold behind the walk: lists of 'changed'. -/
def chg (S : List Nat × List Nat × Bool) (ps : List (Nat × Nat)) (cs : List Value) (r : Nat) : List Value := more (!S.2.2 && (after S ps).2.2) cs (ptr r)

theorem chg_length (S : List Nat × List Nat × Bool) (ps : List (Nat × Nat)) (cs : List Value) (r : Nat) : (chg S ps cs r).length ≤ cs.length + 1 := more_length _ _ _

/-- The three calls of follow, on the state. -/
theorem add0 {B n₀ m bud rr bI bX ro fb n : Nat} {rcs oc : List Value} {a : Option Addr} {cap : Nat} {f : Nat → Nat} {aC : Option Addr} {lenC : Nat} {fC : Nat → Nat} {W : World} {cv : Value} {cs : List Value} {S0 S1 SH : List Nat × List Nat × Bool}
    (h : G B n₀ m bud rr bI bX ro fb n rcs oc a cap f aC lenC fC W cv cs S0 S1 SH) (hn : n ≤ 512) (hf : ∀ i, f i < 18446744073709551616) (hcs : cs.length ≤ 5) :
    Calls Ybad.prog 9 #[ptr m, ptr B, ptr fb] W fun e W' => (∃ v, e = .returned v) ∧ ∃ cv', G B n₀ m bud rr bI bX ro fb n rcs oc a cap f aC lenC fC W' cv' (chg S0 (nz f n) cs B) (after S0 (nz f n)) S1 SH ∧ Fr [B, B + 1, B + 2, m] cv cv' W W' := by
  have hm9 := h.b.2.2.2.2.2.2.1
  refine (add_ok n₀ m bud B (B + 1) (B + 2) n S0 cs cv fb a n cap f W (by omega) (Nat.le_refl _) hf (by omega) (by omega) (St.of h.t0 h.mm) (h.hfb.cell 0) (h.hfb.cell 1) h.src.1 (fun x e => ?_)).mono ?_
  · obtain ⟨h1, c, hc⟩ := h.src.2 x e
    refine ⟨fun hb => ?_, c, 36, hc, by decide⟩
    obtain ⟨mc, hm, _⟩ := h.mm.mm
    simp only [List.mem_cons, List.not_mem_nil, or_false] at hb
    rcases hb with e2 | e2 | e2 | e2
    · omega
    · omega
    · omega
    · unfold Row at hm; rw [e2, hm] at hc; cases hc
  · rintro e W' ⟨hv, cv', hS, hfr⟩
    refine ⟨hv, cv', h.next hfr (fun b hb => ?_) hS.mmm (St.tg hS) (h.t1.fr hfr ?_ ?_ ?_ h.mm.own) (h.th.fr hfr ?_ ?_ ?_ h.mm.own), hfr⟩
    · simp only [List.mem_cons, List.not_mem_nil, or_false] at hb; omega
    all_goals (simp only [List.mem_cons, List.not_mem_nil, or_false]; omega)
theorem add1 {B n₀ m bud rr bI bX ro fb n : Nat} {rcs oc : List Value} {a : Option Addr} {cap : Nat} {f : Nat → Nat} {aC : Option Addr} {lenC : Nat} {fC : Nat → Nat} {W : World} {cv : Value} {cs : List Value} {S0 S1 SH : List Nat × List Nat × Bool}
    (h : G B n₀ m bud rr bI bX ro fb n rcs oc a cap f aC lenC fC W cv cs S0 S1 SH) (hn : n ≤ 512) (hf : ∀ i, f i < 18446744073709551616) (hcs : cs.length ≤ 5) :
    Calls Ybad.prog 9 #[ptr m, ptr (B + 3), ptr fb] W fun e W' => (∃ v, e = .returned v) ∧ ∃ cv', G B n₀ m bud rr bI bX ro fb n rcs oc a cap f aC lenC fC W' cv' (chg S1 (nz f n) cs (B + 3)) S0 (after S1 (nz f n)) SH ∧ Fr [B + 3, B + 4, B + 5, m] cv cv' W W' := by
  have hm9 := h.b.2.2.2.2.2.2.1
  refine (add_ok n₀ m bud (B + 3) (B + 4) (B + 5) n S1 cs cv fb a n cap f W (by omega) (Nat.le_refl _) hf (by omega) (by omega) (St.of h.t1 h.mm) (h.hfb.cell 0) (h.hfb.cell 1) h.src.1 (fun x e => ?_)).mono ?_
  · obtain ⟨h1, c, hc⟩ := h.src.2 x e
    refine ⟨fun hb => ?_, c, 36, hc, by decide⟩
    obtain ⟨mc, hm, _⟩ := h.mm.mm
    simp only [List.mem_cons, List.not_mem_nil, or_false] at hb
    rcases hb with e2 | e2 | e2 | e2
    · omega
    · omega
    · omega
    · unfold Row at hm; rw [e2, hm] at hc; cases hc
  · rintro e W' ⟨hv, cv', hS, hfr⟩
    refine ⟨hv, cv', h.next hfr (fun b hb => ?_) hS.mmm (h.t0.fr hfr ?_ ?_ ?_ h.mm.own) (St.tg hS) (h.th.fr hfr ?_ ?_ ?_ h.mm.own), hfr⟩
    · simp only [List.mem_cons, List.not_mem_nil, or_false] at hb; omega
    all_goals (simp only [List.mem_cons, List.not_mem_nil, or_false]; omega)
theorem addH {B n₀ m bud rr bI bX ro fb n : Nat} {rcs oc : List Value} {a : Option Addr} {cap : Nat} {f : Nat → Nat} {aC : Option Addr} {lenC capC : Nat} {fC : Nat → Nat} {W : World} {cv : Value} {cs : List Value} {S0 S1 SH : List Nat × List Nat × Bool}
    (h : G B n₀ m bud rr bI bX ro fb n rcs oc a cap f aC lenC fC W cv cs S0 S1 SH) (hn : n ≤ 512) (hf : ∀ i, f i < 18446744073709551616) (hcs : cs.length ≤ 5) (hlenC : lenC ≤ 1024) (hfC : ∀ i, fC i < 18446744073709551616) (o4 : oc[4]? = some (.map none)) (o5 : oc[5]? = some (.slice aC lenC capC)) :
    Calls Ybad.prog 11 #[ptr m, ptr (B + 6), ptr fb, .pointer (some ⟨ro, 4, none⟩)] W fun e W' => (∃ v, e = .returned v) ∧ ∃ cv', G B n₀ m bud rr bI bX ro fb n rcs oc a cap f aC lenC fC W' cv' (chg SH ((nz f n).map (both lenC fC)) cs (B + 6)) S0 S1 (after SH ((nz f n).map (both lenC fC))) ∧ Fr [B + 6, B + 7, B + 8, m] cv cv' W W' := by
  have hm9 := h.b.2.2.2.2.2.2.1
  have hro := h.b.2.2.2.1
  have nbs : ∀ x : Addr, B + 9 ≤ x.block → (∃ c, W.heap[x.block]? = some (.cells c 36 (0, 0))) → x.block ∉ [B + 6, B + 7, B + 8, m] := fun x hx ⟨c, hc⟩ hb => by
    obtain ⟨mc, hm, _⟩ := h.mm.mm
    simp only [List.mem_cons, List.not_mem_nil, or_false] at hb
    rcases hb with e2 | e2 | e2 | e2
    · omega
    · omega
    · omega
    · unfold Row at hm; rw [e2, hm] at hc; cases hc
  refine (addBoth_ok n₀ m bud (B + 6) (B + 7) (B + 8) n SH cs cv fb a n cap f ro oc aC lenC capC fC W (by omega) (Nat.le_refl _) hf (by omega) (by omega) (St.of h.th h.mm) (h.hfb.cell 0) (h.hfb.cell 1) h.src.1
    (fun x e => by obtain ⟨h1, c, hc⟩ := h.src.2 x e; exact ⟨nbs x h1 ⟨c, hc⟩, c, 36, hc, by decide⟩) hlenC hfC h.ho ?_ o4 o5 h.srcC.1 (fun x e => by obtain ⟨h1, c, hc⟩ := h.srcC.2 x e; exact ⟨nbs x h1 ⟨c, hc⟩, c, 36, hc, by decide⟩)).mono ?_
  · obtain ⟨mc, hm, _⟩ := h.mm.mm
    have := Row.ne h.ho hm (by decide)
    simp only [List.mem_cons, List.not_mem_nil, or_false]; omega
  · rintro e W' ⟨hv, cv', hS, hfr⟩
    refine ⟨hv, cv', h.next hfr (fun b hb => ?_) hS.mmm (h.t0.fr hfr ?_ ?_ ?_ h.mm.own) (h.t1.fr hfr ?_ ?_ ?_ h.mm.own) (St.tg hS), hfr⟩
    · simp only [List.mem_cons, List.not_mem_nil, or_false] at hb; omega
    all_goals (simp only [List.mem_cons, List.not_mem_nil, or_false]; omega)

set_option maxRecDepth 20000 in
set_option maxHeartbeats 8000000 in
theorem follow_ok (B n₀ m bud rr bI bX ro n : Nat) (S0 S1 SH : List Nat × List Nat × Bool) (rcs oc : List Value) (a : Option Addr) (cap : Nat) (f : Nat → Nat) (aC : Option Addr) (lenC capC : Nat) (fC : Nat → Nat) (qR : Bool) (W : World)
    (hn : n ≤ 512) (hcap : cap ≤ 4096) (hlenC : lenC ≤ 1024) (hf : ∀ i, f i < 18446744073709551616) (hfC : ∀ i, fC i < 18446744073709551616)
    (T0 : Tg W B (B + 1) (B + 2) n S0) (T1 : Tg W (B + 3) (B + 4) (B + 5) n S1) (TH : Tg W (B + 6) (B + 7) (B + 8) n SH) (hMm : Mm W n₀ m bud (.slice none 0 0) [])
    (hrr : Row W rr 34 rcs) (hrl : rcs.length = 16) (r8 : rcs[8]? = some (.map none)) (r9 : rcs[9]? = some (.slice a n cap)) (r10 : rcs[10]? = some (.int .i64 0)) (r11 : rcs[11]? = some (.int .i64 0)) (r12 : rcs[12]? = some (.bool qR))
    (r13 : rcs[13]? = some (.slice (some ⟨bI, 0, none⟩) 2 2)) (r14 : rcs[14]? = some (.slice none 0 0)) (r15 : rcs[15]? = some (.slice (some ⟨bX, 0, none⟩) 1 1))
    (hI : Row W bI 23 [ptr B, ptr (B + 3)]) (hX : Row W bX 39 [ptr (B + 6), ptr ro]) (ho : Row W ro 34 oc) (o4 : oc[4]? = some (.map none)) (o5 : oc[5]? = some (.slice aC lenC capC)) (hbud : Row W bud 43 (budCells 0))
    (hb : B + 9 ≤ rr ∧ B + 9 ≤ bI ∧ B + 9 ≤ bX ∧ B + 9 ≤ ro ∧ B + 9 ≤ bud ∧ B + 9 ≤ m ∧ bI < n₀) (hrro : rr ≠ ro) (src : Src W (B + 9) a n f) (srcC : Src W (B + 9) aC lenC fC) :
    Calls Ybad.prog 7 #[ptr m, ptr rr] W fun e W' => (∃ v, e = .returned v) ∧ ∃ cv,
      Tg W' B (B + 1) (B + 2) n (after S0 (nz f n)) ∧ Tg W' (B + 3) (B + 4) (B + 5) n (after S1 (nz f n)) ∧ Tg W' (B + 6) (B + 7) (B + 8) n (after SH ((nz f n).map (both lenC fC))) ∧
      Mm W' n₀ m bud cv (chg SH ((nz f n).map (both lenC fC)) (chg S1 (nz f n) (chg S0 (nz f n) [] B) (B + 3)) (B + 6)) ∧
      (∃ rcs', Row W' rr 34 rcs' ∧ rcs'[8]? = some (.map none) ∧ rcs'[9]? = some (.slice none 0 0) ∧ rcs'[10]? = some (.int .i64 0) ∧ rcs'[11]? = some (.int .i64 0) ∧ rcs'[12]? = some (.bool false)) ∧
      Fr [B, B + 1, B + 2, B + 3, B + 4, B + 5, B + 6, B + 7, B + 8, m, rr, bud] (.slice none 0 0) cv W W' := by
  have hrrm : rr ≠ m := by
    obtain ⟨⟨mc, a1, _⟩, _⟩ := hMm
    exact Row.ne hrr a1 (by decide)
  have c8 := (hrr.cell 8).trans r8
  have c9 := (hrr.cell 9).trans r9
  have c10 := (hrr.cell 10).trans r10
  have c11 := (hrr.cell 11).trans r11
  have c12 := (hrr.cell 12).trans r12
  have f8 := hrr.frozen 8
  have f9 := hrr.frozen 9
  have f10 := hrr.frozen 10
  have f11 := hrr.frozen 11
  have f12 := hrr.frozen 12
  have hlt := hrr.lt
  have HA : Hid (Tg W B (B + 1) (B + 2) n S0 ∧ Tg W (B + 3) (B + 4) (B + 5) n S1 ∧ Tg W (B + 6) (B + 7) (B + 8) n SH ∧ Mm W n₀ m bud (.slice none 0 0) [] ∧ Row W rr 34 rcs ∧ Row W bI 23 [ptr B, ptr (B + 3)] ∧ Row W bX 39 [ptr (B + 6), ptr ro] ∧ Row W ro 34 oc ∧ Row W bud 43 (budCells 0)) := ⟨T0, T1, TH, hMm, hrr, hI, hX, ho, hbud⟩
  have HR : Hid (Src W (B + 9) a n f ∧ Src W (B + 9) aC lenC fC) := ⟨src, srcC⟩
  have HF : Hid _ := hf
  have HFC : Hid _ := hfC
  clear T0 T1 TH hMm hrr hI hX ho hbud src srcC hf hfC
  go_enter Ybad.func7, Ybad.ntmps7
  go_upto_region 2 with fail
  have hGG : ∃ rcs', rcs'[8]? = some (.map none) ∧ rcs'[9]? = some (.slice none 0 0) ∧ rcs'[10]? = some (.int .i64 0) ∧ rcs'[11]? = some (.int .i64 0) ∧ rcs'[12]? = some (.bool false) ∧ rcs'[13]? = some (.slice (some ⟨bI, 0, none⟩) 2 2) ∧ rcs'[14]? = some (.slice none 0 0) ∧ rcs'[15]? = some (.slice (some ⟨bX, 0, none⟩) 1 1) ∧
      G B n₀ m bud rr bI bX ro W.heap.size n rcs' oc a cap f aC lenC fC ((((((W.setCell ⟨rr, 8, none⟩ (.map none)).setCell ⟨rr, 9, none⟩ (.slice none 0 0)).setCell ⟨rr, 10, none⟩ (.int .i64 0)).setCell ⟨rr, 11, none⟩ (.int .i64 0)).setCell ⟨rr, 12, none⟩ (.bool false)).alloc (.cells #[.map none, .slice a n cap, .int .i64 0, .int .i64 0] 29)) (.slice none 0 0) [] S0 S1 SH ∧
      Fr [rr] (.slice none 0 0) (.slice none 0 0) W ((((((W.setCell ⟨rr, 8, none⟩ (.map none)).setCell ⟨rr, 9, none⟩ (.slice none 0 0)).setCell ⟨rr, 10, none⟩ (.int .i64 0)).setCell ⟨rr, 11, none⟩ (.int .i64 0)).setCell ⟨rr, 12, none⟩ (.bool false)).alloc (.cells #[.map none, .slice a n cap, .int .i64 0, .int .i64 0] 29)) := by
    obtain ⟨T0, T1, TH, hMm, hrr, hI, hX, ho, hbud⟩ := HA.out
    obtain ⟨src, srcC⟩ := HR.out
    have ho5 := (((((Only.refl rr W).setCell 8 (.map none)).setCell 9 (.slice none 0 0)).setCell 10 (.int .i64 0)).setCell 11 (.int .i64 0)).setCell 12 (.bool false)
    have hr5 := ((((hrr.set 8 (.map none)).set 9 (.slice none 0 0)).set 10 (.int .i64 0)).set 11 (.int .i64 0)).set 12 (.bool false)
    have hs5 := ho5.size
    generalize hW5 : ((((W.setCell ⟨rr, 8, none⟩ (.map none)).setCell ⟨rr, 9, none⟩ (.slice none 0 0)).setCell ⟨rr, 10, none⟩ (.int .i64 0)).setCell ⟨rr, 11, none⟩ (.int .i64 0)).setCell ⟨rr, 12, none⟩ (.bool false) = W5 at ho5 hr5 hs5 ⊢
    have hF : Fr [rr] (.slice none 0 0) (.slice none 0 0) W (W5.alloc (.cells #[.map none, .slice a n cap, .int .i64 0, .int .i64 0] 29)) := (Fr.only ho5 (by simp)).trans (Fr.alloc _ _)
    have hown := hMm.own
    have nr : ∀ k, B ≤ k → k < B + 9 → k ∉ [rr] := fun k _ hk e => by simp at e; omega
    have hmr : m ∉ [rr] := by simp; exact Ne.symm hrrm
    have hfbR := Row.new W5 29 [.map none, .slice a n cap, .int .i64 0, .int .i64 0] W.heap.size hs5.symm
    have ns : ∀ (a : Option Addr) (len : Nat) (f : Nat → Nat), Src W (B + 9) a len f → ∀ x, a = some x → x.block ∉ [rr] := fun a len f h x e e2 => by
      obtain ⟨_, c, hc⟩ := h.2 x e
      simp at e2
      unfold Row at hrr
      rw [e2, hrr] at hc; cases hc
    refine ⟨_, ?_, ?_, ?_, ?_, ?_, ?_, ?_, ?_, ⟨T0.fr hF (nr _ (by omega) (by omega)) (nr _ (by omega) (by omega)) (nr _ (by omega) (by omega)) hown, T1.fr hF (nr _ (by omega) (by omega)) (nr _ (by omega) (by omega)) (nr _ (by omega) (by omega)) hown, TH.fr hF (nr _ (by omega) (by omega)) (nr _ (by omega) (by omega)) (nr _ (by omega) (by omega)) hown,
      hMm.fr hF hmr (by exact World.ownsRow_nil _ _ _ _), hr5.alloc _, hF.row hI (by simp; exact Ne.symm (Row.ne hrr hI (by decide))) (by simp [Value.ownBlock]), hF.row hX (by simp; exact Ne.symm (Row.ne hrr hX (by decide))) (by simp [Value.ownBlock]), hF.row ho (by simp; exact Ne.symm hrro) (by simp [Value.ownBlock]), hF.row hbud (by simp; exact Ne.symm (Row.ne hrr hbud (by decide))) (by simp [Value.ownBlock]), hfbR, src.fr hF (ns _ _ _ src) hown, srcC.fr hF (ns _ _ _ srcC) hown, ?_⟩, hF⟩
    · simp [hrl]
    · simp [hrl]
    · simp [hrl]
    · simp [hrl]
    · simp [hrl]
    · simp [r13]
    · simp [r14]
    · simp [r15]
    · have := hrr.lt
      omega
  obtain ⟨rcs', e8, e9, e10, e11, e12, e13, e14, e15, hG, hF0⟩ := hGG
  generalize hWA : World.alloc _ _ = WA at hG hF0 ⊢
  clear hWA c8 c9 c10 c11 c12 f8 f9 f10 f11 f12 r8 r9 r10 r11 r12 r13 r14 r15
  have a13 := (hG.hrr.cell 13).trans e13
  have i0 := hG.hI.cell 0
  have i1 := hG.hI.cell 1
  simp only [List.getElem?_cons_zero, List.getElem?_cons_succ] at i0 i1
  have HG : Hid _ := hG
  clear hG
  go_wp2
  refine wp_loop_rounds 3 ?_
  rw [rounds_succ]
  go_wp2_with (go_at_call 9; refine (add0 HG.out hn HF.out (by simp)).mono ?_; rintro e W1 ⟨⟨v1, rfl⟩, cv1, hG1, hF1⟩; have HG1 : Hid _ := hG1; clear hG1)
  have i1' := HG1.out.hI.cell 1
  simp only [List.getElem?_cons_zero, List.getElem?_cons_succ] at i1'
  have hl1 := chg_length S0 (nz f n) [] B
  rw [rounds_succ]
  go_wp2_with (go_at_call 9; refine (add1 HG1.out hn HF.out (by simp at hl1; omega)).mono ?_; rintro e W2 ⟨⟨v2, rfl⟩, cv2, hG2, hF2⟩; have HG2 : Hid _ := hG2; clear hG2)
  have hl2 := chg_length S1 (nz f n) (chg S0 (nz f n) [] B) (B + 3)
  have a14 := (HG2.out.hrr.cell 14).trans e14
  have a15 := (HG2.out.hrr.cell 15).trans e15
  have x0 := HG2.out.hX.cell 0
  have x1 := HG2.out.hX.cell 1
  simp only [List.getElem?_cons_zero, List.getElem?_cons_succ] at x0 x1
  rw [rounds_succ]
  go_wp2
  refine wp_loop_rounds 1 ?_
  rw [rounds_succ]
  go_wp2
  refine wp_loop_rounds 2 ?_
  rw [rounds_succ]
  go_upto_region 15 with fail
  have hG3 := HG2.out.alloc (.cells #[ptr (B + 6), ptr ro] 39)
  have hR3 := Row.new W2 39 [ptr (B + 6), ptr ro] W2.heap.size rfl
  have hF3 : Fr [] cv2 cv2 W2 (W2.alloc (.cells #[ptr (B + 6), ptr ro] 39)) := Fr.alloc _ _
  generalize hW3 : W2.alloc _ = W3 at hG3 hR3 hF3 ⊢
  clear hW3
  have hNI : W2.heap.size ∉ [B + 6, B + 7, B + 8, m] := fun e => by
    obtain ⟨⟨rc, q1, _⟩, q2, q3, _⟩ := HG2.out.th
    obtain ⟨mc, q4, _⟩ := HG2.out.mm.mm
    have := q1.lt; have := q2.lt; have := q3.lt; have := q4.lt
    simp only [List.mem_cons, List.not_mem_nil, or_false] at e
    omega
  have hN0 := own_ne hG3.mm.own hR3 (by decide)
  have y0 := hR3.cell 0
  have y1 := hR3.cell 1
  simp only [List.getElem?_cons_zero, List.getElem?_cons_succ] at y0 y1
  have HG3 : Hid _ := hG3
  have HR3 : Hid _ := hR3
  have HNI : Hid _ := hNI
  have HN0 : Hid _ := hN0
  clear hG3 hR3 hNI hN0
  go_region_held3 (fun V => V.cell? ⟨W2.heap.size, 0, none⟩ = some (ptr (B + 6)) ∧ V.cell? ⟨W2.heap.size, 1, none⟩ = some (ptr ro)) (first | exact ⟨y0, y1⟩ | exact hSS | assumption)
    (first | (go_at_call 11; refine (addH (capC := capC) (G.drew HG3.out) hn HF.out (by simp at hl1; omega) hlenC HFC.out o4 o5).mono ?_; rintro e W4 ⟨⟨v4, rfl⟩, cv4, hG4, hF4⟩; have hR4 := (Fr.ofDrew hF4).row HR3.out HNI.out HN0.out; have hSS : W4.cell? ⟨W2.heap.size, 0, none⟩ = some (ptr (B + 6)) ∧ W4.cell? ⟨W2.heap.size, 1, none⟩ = some (ptr ro) := ⟨hR4.cell 0, hR4.cell 1⟩; have HG4 : Hid _ := hG4; clear hG4))
  have hm17 : ∃ mc : List Value, Row W4 m 55 mc ∧ mc[17]? = some (ptr bud) := by
    obtain ⟨mc, q1, _, _, q4⟩ := HG4.out.mm.mm
    exact ⟨mc, q1, q4⟩
  obtain ⟨mc, hmc, hmc17⟩ := hm17
  have d17 := (hmc.cell 17).trans hmc17
  have z0 := HG4.out.hfb.cell 0
  have z1 := HG4.out.hfb.cell 1
  simp only [List.getElem?_cons_zero, List.getElem?_cons_succ] at z0 z1
  have hmb : m ≠ bud := Row.ne hmc HG4.out.hbud (by decide)
  clear hmc hR4
  go_wp2
  rw [rounds_succ]
  go_wp2
  go_region_held3 (fun V => V.cell? ⟨m, 17, none⟩ = some (ptr bud)) (first | assumption | exact d17 | exact hS5)
    (first
      | (go_at_call 13; refine (bytes_ok W.heap.size a n cap _ hcap (by exact z0) (by exact z1)).mono ?_; rintro e W5 ⟨⟨mb, hmb5, rfl⟩, rfl⟩)
      | (go_at_call 12; refine (Give_ok bud mb hmb5 _ (by exact HG4.out.hbud)).mono ?_; rintro e W6 ⟨⟨v6, rfl⟩, ho6⟩; have hS5 := (ho6.cell m 17 hmb).trans d17))
  go_wp2
  go_end0
  have hG4 := HG4.out
  have hO : Only bud W4 W6 := ((Only.refl bud W4).drew).trans ho6
  have hF6 : Fr [bud] cv4 cv4 W4 W6 := Fr.only hO (by simp)
  have hb5 := hG4.b.2.2.2.2.1
  have nb : ∀ k, k < B + 9 → k ∉ [bud] := fun k hk e => by simp at e; omega
  have own6 := own_only hG4.mm.own hO hG4.hbud (by decide)
  refine ⟨⟨_, rfl⟩, cv4, hG4.t0.fr hF6 (nb _ (by omega)) (nb _ (by omega)) (nb _ (by omega)) hG4.mm.own, hG4.t1.fr hF6 (nb _ (by omega)) (nb _ (by omega)) (nb _ (by omega)) hG4.mm.own, hG4.th.fr hF6 (nb _ (by omega)) (nb _ (by omega)) (nb _ (by omega)) hG4.mm.own,
    hG4.mm.fr hF6 (by simp; exact hmb) own6, ⟨rcs', hF6.row hG4.hrr (by simp; exact Row.ne hG4.hrr hG4.hbud (by decide)) (own_ne hG4.mm.own hG4.hrr (by decide)), e8, e9, e10, e11, e12⟩, ?_⟩
  have q0 : Fr [B, B + 1, B + 2, B + 3, B + 4, B + 5, B + 6, B + 7, B + 8, m, rr, bud] _ _ W WA := hF0.mono (by simp)
  have q1 : Fr [B, B + 1, B + 2, B + 3, B + 4, B + 5, B + 6, B + 7, B + 8, m, rr, bud] _ _ WA W1 := hF1.mono (by simp)
  have q2 : Fr [B, B + 1, B + 2, B + 3, B + 4, B + 5, B + 6, B + 7, B + 8, m, rr, bud] _ _ W1 W2 := hF2.mono (by simp)
  have q3 : Fr [B, B + 1, B + 2, B + 3, B + 4, B + 5, B + 6, B + 7, B + 8, m, rr, bud] _ _ W2 W3 := hF3.mono (by simp)
  have q4 : Fr [B, B + 1, B + 2, B + 3, B + 4, B + 5, B + 6, B + 7, B + 8, m, rr, bud] _ _ W3 W4 := (Fr.ofDrew hF4).mono (by simp)
  have q5 : Fr [B, B + 1, B + 2, B + 3, B + 4, B + 5, B + 6, B + 7, B + 8, m, rr, bud] _ _ W4 W6 := hF6.mono (by simp)
  exact ((((q0.trans q1).trans q2).trans q3).trans q4).trans q5
end Follow
end Go.Proofs.YbulkcrmgDoor
