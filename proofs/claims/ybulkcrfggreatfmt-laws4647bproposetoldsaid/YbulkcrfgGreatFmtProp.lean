/-
  LawS4647BPropose: (*EchoLocks).propose: the candidates.
-/
import Derived.Test.YbulkcrfgGreatFmtNewL
namespace Go.Proofs.YbulkcrfgGreatFmt
open Go.RowKit
namespace Propose
open Kit

/-- The candidates behind the first k lists. -/
def cnd (e : Nat → AL) (me : Nat) (S0 : Nat → Bool) : Nat → Nat → Bool
  | 0 => S0
  | k + 1 => if (e k).l = me then fun i => cnd e me S0 k i || (e k).xs.contains i else cnd e me S0 k
/-- How many members the first k lists for me are from, and the last of them. -/
def hrd (e : Nat → AL) (me : Nat) : Nat → Nat × Nat
  | 0 => (0, 0)
  | k + 1 => if (e k).l = me ∧ (e k).f ≠ (hrd e me k).2 then ((hrd e me k).1 + 1, (e k).f) else hrd e me k
theorem hrd_le (e : Nat → AL) (me k : Nat) : (hrd e me k).1 ≤ k := by
  induction k with
  | zero => exact Nat.le_refl _
  | succ k ih =>
    unfold hrd
    split
    · show (hrd e me k).1 + 1 ≤ k + 1; omega
    · omega

/-- What propose reads of the member's phase. -/
structure Ph (w : World) (m N T id k ph ss st g n cap : Nat) (gv ev pv pk : Value) (e : Nat → AL) : Prop where
  row : LkRow w m N T id gv ev (.slice (some ⟨ph, 0, none⟩) N N) pv pk
  c1 : w.cell? ⟨ph, (k - 1) % N * 2 + 1, none⟩ = some (.slice (some ⟨ss, 0, none⟩) 1 1)
  cs : w.cell? ⟨ss, 0, none⟩ = some (ptr st)
  cf : w.cell? ⟨st, 0, none⟩ = some (num k)
  cl : w.cell? ⟨st, 1, none⟩ = some (num k)
  cg : w.cell? ⟨st, 2, none⟩ = some (.slice (some ⟨g, 0, none⟩) n cap)
  ls : LArr w g n e
theorem Ph.below {w w' : World} {m N T id k ph ss st g n cap : Nat} {gv ev pv pk : Value} {e : Nat → AL} (h : Ph w m N T id k ph ss st g n cap gv ev pv pk e) (hb : Below w.heap.size w w') : Ph w' m N T id k ph ss st g n cap gv ev pv pk e :=
  ⟨h.row.below hb h.row.lt, (hb.cell (World.block_lt_of_cell? w _ h.c1)).trans h.c1, (hb.cell (World.block_lt_of_cell? w _ h.cs)).trans h.cs, (hb.cell (World.block_lt_of_cell? w _ h.cf)).trans h.cf, (hb.cell (World.block_lt_of_cell? w _ h.cl)).trans h.cl, (hb.cell (World.block_lt_of_cell? w _ h.cg)).trans h.cg, h.ls.below hb⟩

def good (e : Nat → AL) (me n q c : Nat) : Bool := decide (1 ≤ c) && decide (c ≤ 4) && decide (q ≤ (nmg e me c n).1)
/-- What propose proposes. -/
def propR (e : Nat → AL) (me n q : Nat) (S0 : Nat → Bool) : Option Nat :=
  if (hrd e me n).1 < q then none else (ord.filter (cnd e me S0 n)).find? (good e me n q)

theorem find_first : ∀ (xs : List Nat) (j x : Nat) (p : Nat → Bool), xs[j]? = some x → p x = true → (∀ t, t < j → ∀ y, xs[t]? = some y → p y = false) → xs.find? p = some x
  | [], _, _, _, h, _, _ => by simp at h
  | y :: ys, 0, x, p, h, hp, _ => by
    simp at h
    subst h
    simp [hp]
  | y :: ys, j + 1, x, p, h, hp, hn => by
    have h0 := hn 0 (by omega) y rfl
    rw [List.find?_cons, h0]
    exact find_first ys j x p (by simpa using h) hp (fun t ht z hz => hn (t + 1) (by omega) z (by simpa using hz))
theorem held_take {P : Program} {ops : Array Oper} {Q : Exit → Act → World → Prop} {md : Region.Mode} {S : World → Prop} {i : Nat} {oi : Oper} {v : Value} {d : Option Tmp} {fuel : Nat} {listed : Array Bool} {a : Act} {w : World} (hi : ops[i]? = some oi) (hd : oi.dst = d)
    (hs : Region.noSelect ops = true) (hf : Region.free md ops listed i = true) (hr : (Region.ready md ops listed).contains i = true)
    (hQ : ∀ c a w, Q (.panic c) (a.put d v) w → Q (.panic c) a w) (hy : YieldsIf P ops S oi v a) (hS : S w)
    (h : wpAnyH P md ops Q S fuel (listed.setIfInBounds i true) (a.put d v) w) : wpAnyH P md ops Q S (fuel + 1) listed a w := by
  subst hd
  exact wpAnyH_take hi hs hf hr hQ hy hS h
/-- What the guarded statement's calls keep. -/
def Kept (wr V : World) (m N T id : Nat) : Prop :=
  V.cell? ⟨m, 0, none⟩ = some (num N) ∧ V.cell? ⟨m, 1, none⟩ = some (num T) ∧ V.cell? ⟨m, 2, none⟩ = some (num id) ∧ Below wr.heap.size wr V
theorem kept_of {wr V : World} {m N T id k ph ss st g n cap : Nat} {gv ev pv pk : Value} {e : Nat → AL} (h : Ph wr m N T id k ph ss st g n cap gv ev pv pk e) (hb : Below wr.heap.size wr V) : Kept wr V m N T id :=
  ⟨(h.below hb).row.cells.1, (h.below hb).row.cells.2.1, (h.below hb).row.cells.2.2.1, hb⟩
theorem naming_keep {wr V : World} {m N T id k ph ss st g n cap : Nat} {gv ev pv pk : Value} {e : Nat → AL} (h : Ph wr m N T id k ph ss st g n cap gv ev pv pk e) (x cnt : Nat) (hn : n ≤ 300) (hx : x < 6) (hO : Okl n e) (hc : (nmg e id x n).1 = cnt) (hb : Kept wr V m N T id) :
    Calls Ybaz.prog 27 #[.pointer (some ⟨st, 2, none⟩), str (poolL x), num id] V fun r V' => r = .returned (num cnt) ∧ Kept wr V' m N T id := by
  refine (naming_ok st 2 g n cap id x e V hn hx (h.below hb.2.2.2).cg (h.below hb.2.2.2).ls hO).mono ?_
  rintro r V' ⟨rfl, h2⟩
  exact ⟨by rw [hc], kept_of h (hb.2.2.2.trans (h2.mono hb.2.2.2.size))⟩
theorem quorum_keep {wr V : World} {m N T id k ph ss st g n cap : Nat} {gv ev pv pk : Value} {e : Nat → AL} (h : Ph wr m N T id k ph ss st g n cap gv ev pv pk e) (qq : Nat) (hN : 1 ≤ N ∧ N ≤ 7) (hT : T < N) (hc : N - T = qq) (hb : Kept wr V m N T id) :
    Calls Ybaz.prog 26 #[cfg N T] V fun r V' => r = .returned (num qq) ∧ Kept wr V' m N T id := by
  refine (ListQuorum_ok N T hN hT V).mono ?_
  rintro r V' ⟨rfl, h2⟩
  exact ⟨by rw [hc], kept_of h (hb.2.2.2.trans (h2.mono hb.2.2.2.size))⟩
theorem bad_keep {wr V : World} {m N T id k ph ss st g n cap : Nat} {gv ev pv pk : Value} {e : Nat → AL} (h : Ph wr m N T id k ph ss st g n cap gv ev pv pk e) (F : Go.Stop.Interp) (x : Nat) (hx : x = 0 ∨ x = 5) (hF : F.answers wr.tape) (hb : Kept wr V m N T id) :
    Calls Ybaz.prog 19 #[str (poolL x)] V fun r V' => (∃ b, r = .returned (.iface 190 (ptr b))) ∧ Kept wr V' m N T id := by
  refine (CheckValue_bad F x hx V (by rw [hb.2.2.2.tape]; exact hF)).mono ?_
  rintro r V' ⟨hr, h2⟩
  exact ⟨hr, kept_of h (hb.2.2.2.trans (h2.mono hb.2.2.2.size))⟩

set_option maxRecDepth 20000 in
set_option maxHeartbeats 4000000 in
theorem propose_ok (F : Go.Stop.Interp) (m N T id k ph ss st g n cap eb S mb B : Nat) (gv : Value) (e : Nat → AL) (S0 : Nat → Bool) (w : World) (hF : F.answers w.tape) (hN : 1 ≤ N ∧ N ≤ 7) (hT : T < N) (hk : 1 ≤ k ∧ k ≤ 20) (hn : n ≤ 300)
    (hP : Ph w m N T id k ph ss st g n cap gv (ptr eb) (.string ⟨#[]⟩) (.int .i64 0) e) (hO : Okl n e) (hC : Cs w gv S0) (hM : MRow w eb S mb) (hE : MapE w mb) (hB : B ≤ m ∧ B ≤ mb ∧ B ≤ w.heap.size) :
    Calls Ybaz.prog 11 #[ptr m, num k] w fun x w' => (∃ u, x = .returned u) ∧ ∃ es c pv pk, w'.heap[mb]? = some (.map es c) ∧ LkRow w' m N T id gv (ptr eb) (.slice (some ⟨ph, 0, none⟩) N N) pv pk ∧ MRow w' eb S mb ∧ Below B w w' ∧ (∀ b, b < w.heap.size → b ≠ m → b ≠ mb → w'.heap[b]? = w.heap[b]?) ∧
      ((propR e id n (N - T) S0 = none ∧ es = #[] ∧ pv = .string ⟨#[]⟩ ∧ pk = .int .i64 0) ∨ (∃ t, t < 6 ∧ propR e id n (N - T) S0 = some t ∧ es = #[{ key := num (3 * k - 1), val := .string (lockS t), born := 0 }] ∧ pv = str (poolL t) ∧ pk = num k)) := by
  have HP : Hid (Ph w m N T id k ph ss st g n cap gv (ptr eb) (.string ⟨#[]⟩) (.int .i64 0) e) := hP
  have HO : Hid (Okl n e) := hO
  have HC : Hid (Cs w gv S0) := hC
  have HM : Hid (MRow w eb S mb ∧ MapE w mb) := ⟨hM, hE⟩
  have HB : Hid (B ≤ m ∧ B ≤ mb ∧ B ≤ w.heap.size) := hB
  have HF : Hid (F.answers w.tape) := hF
  clear hP hO hC hM hE hB hF
  have HA : Hid (Calls Ybaz.prog 23 #[ptr m, num k] w fun x w' => x = .returned (.pointer (some ⟨st, 2, none⟩)) ∧ ∃ q, w' = w.drewN q) :=
    accepted_ok m ph ss st N k _ w hN hk rfl HP.out.row.cells.1 HP.out.row.cells.2.2.2.2.2.1 HP.out.c1 HP.out.cs HP.out.cf HP.out.cl
  go_enter Ybaz.func11, Ybaz.ntmps11
  go_upto_region 1 with (go_at_call 23; refine HA.out.mono ?_; rintro x w0 ⟨rfl, q, rfl⟩)
  obtain ⟨W, hW⟩ : ∃ W, w.drewN q = W := ⟨_, rfl⟩
  have HW : Hid (Below w.heap.size w W ∧ W.heap.size = w.heap.size) := by rw [← hW]; exact ⟨(Below.refl _ _).drwN q, rfl⟩
  rw [hW]
  have HPW : Hid (Ph W m N T id k ph ss st g n cap gv (ptr eb) (.string ⟨#[]⟩) (.int .i64 0) e) := HP.out.below HW.out.1
  have c9 := HPW.out.row.cells.2.2.2.1
  have cg := HPW.out.cg
  clear hW
  go_upto_region 4 with fail
  go_loopw [5, 6, 7, 28] (fun v5 v6 v7 v28 wr => ∃ i, i ≤ n ∧ v28 = num i ∧ v6 = num (hrd e id i).1 ∧ v7 = num (hrd e id i).2 ∧ Cs wr v5 (cnd e id S0 i) ∧ Below W.heap.size W wr) (fun _ _ _ v _ => n - (intOf v).toNat)
  case atStart => exact ⟨0, Nat.zero_le _, rfl, rfl, rfl, HC.out.below HW.out.1, Below.refl _ _⟩
  case round =>
    clear c9 cg
    obtain ⟨i, hi, rfl, rfl, rfl, hCs, hBr⟩ := hrel
    have HCs : Hid (Cs wr u5 (cnd e id S0 i)) := hCs
    have HBr : Hid (Below W.heap.size W wr) := hBr
    have HPr : Hid (Ph wr m N T id k ph ss st g n cap gv (ptr eb) (.string ⟨#[]⟩) (.int .i64 0) e) := HPW.out.below hBr
    clear hCs hBr
    by_cases hlt : i < n
    · have g1 : (i : Int) < (n : Int) := by omega
      obtain ⟨y0, y1, y2, y3⟩ := HPr.out.ls.2 i hlt
      obtain ⟨o1, o2, o3, o4, o5⟩ := HO.out i hlt
      have hle := hrd_le e id i
      go_upto_region 6 with fail
      have hrow := Row.new wr 38 [num (e i).f, num (e i).l, str (encs (e i).xs), .bool (e i).al] _ rfl
      have hB2 := (Below.refl wr.heap.size wr).alloc (Nat.le_refl _) (.cells #[num (e i).f, num (e i).l, str (encs (e i).xs), .bool (e i).al] 38)
      have z0 := hrow.cell 0
      have z1 := hrow.cell 1
      have z2 := hrow.cell 2
      simp only [List.getElem?_cons_zero, List.getElem?_cons_succ] at z0 z1 z2
      have hbl := hrow.lt
      generalize hbv : wr.heap.size = bv at hrow z0 z1 z2 hbl ⊢
      generalize hVV : World.alloc wr _ = V at hB2 hrow z0 z1 z2 hbl ⊢
      have HV : Hid (Cs V u5 (cnd e id S0 i) ∧ Below W.heap.size W V) := ⟨HCs.out.below hB2, HBr.out.trans (hB2.mono HBr.out.size)⟩
      have c2 := (HPr.out.below hB2).row.cells.2.2.1
      clear hVV hbv y0 y1 y2 y3 hB2 hrow HCs HBr HPr
      have hcn : cnd e id S0 (i + 1) = if (e i).l = id then fun j => cnd e id S0 i j || (e i).xs.contains j else cnd e id S0 i := rfl
      have hs : hrd e id (i + 1) = if (e i).l = id ∧ (e i).f ≠ (hrd e id i).2 then ((hrd e id i).1 + 1, (e i).f) else hrd e id i := rfl
      generalize hc1 : (hrd e id i).1 = c at hs hle ⊢
      generalize hc2 : (hrd e id i).2 = d at hs ⊢
      by_cases h1 : (e i).l = id
      · have b1 : (((e i).l : Int) != (id : Int)) = false := by simp; omega
        rw [if_pos h1] at hcn
        have Ho1 : Hid (∀ x ∈ (e i).xs, x < 6) := o1
        have Hcn : Hid _ := hcn
        have Hz : Hid _ := z2
        clear o1 hcn z2
        go_quiet (fail)
        obtain ⟨V2, hV2⟩ : ∃ V2, V.drewN nq = V2 := ⟨_, rfl⟩
        rw [hV2]
        have HV2 : Hid (Cs V2 u5 (cnd e id S0 i) ∧ Below W.heap.size W V2 ∧ V2.cell? ⟨bv, 0, none⟩ = some (num (e i).f) ∧ V2.cell? ⟨bv, 2, none⟩ = some (str (encs (e i).xs)) ∧ bv < V2.heap.size) := by
          rw [← hV2]
          exact ⟨HV.out.1.below ((Below.refl _ _).drwN _), HV.out.2.drwN _, z0, Hz.out, hbl⟩
        have HU : Hid (Calls Ybaz.prog 25 #[ptr bv] V2 fun x w' => ∃ v, x = .returned v ∧ w'.ownsRow V2.heap.size 9 1 v (e i).xs.length (strs (e i).xs) ∧ Below V2.heap.size V2 w') := named_ok bv (e i).xs Ho1.out o2 V2 HV2.out.2.2.2.1
        clear hV2 HV Hz z0 z1 c2 hbl
        go_upto_region 8 with (first
          | (go_at_call 25; refine HU.out.mono ?_; rintro x w1 ⟨v, rfl, hown, hb1⟩)
          | (go_at_call 24; refine (union_ok _ v (cnd e id S0 i) (e i).xs V2.heap.size _ Ho1.out o2 (HV2.out.1.below hb1) hown).mono ?_; rintro x w2 ⟨v2, rfl, hCs2, hb2⟩))
        have z0 : w2.cell? ⟨bv, 0, none⟩ = some (num (e i).f) := (hb2.cell (Nat.lt_of_lt_of_le HV2.out.2.2.2.2 hb1.size)).trans ((hb1.cell HV2.out.2.2.2.2).trans HV2.out.2.2.1)
        have HE : Hid (Cs w2 v2 (cnd e id S0 (i + 1)) ∧ Below W.heap.size W w2) := by
          refine ⟨by rw [Hcn.out]; exact hCs2, ?_⟩
          have k1 := HV2.out.2.1
          have k2 := k1.trans (hb1.mono k1.size)
          exact k2.trans (hb2.mono k2.size)
        clear hown hb1 hCs2 hb2 HV2 HU Hcn
        by_cases h2 : (e i).f = d
        · have b2 : (((e i).f : Int) != (d : Int)) = false := by simp; omega
          rw [if_neg (by intro h; exact h.2 h2)] at hs
          have HS : Hid _ := hs
          clear hs
          go_wp2_with fail
          go_roundw
          case rel => exact ⟨i + 1, by omega, by simp, by rw [HS.out, hc1], by rw [HS.out, hc2], HE.out.1, HE.out.2⟩
          case measure => simp [intOf]; omega
        · have b2 : (((e i).f : Int) != (d : Int)) = true := by simp; omega
          rw [if_pos ⟨h1, h2⟩] at hs
          have HS : Hid _ := hs
          clear hs
          go_upto_region 9 with fail
          go_quiet (fail)
          go_wp2
          go_roundw
          case rel => exact ⟨i + 1, by omega, by simp, by rw [HS.out]; simp, by rw [HS.out], HE.out.1.below ((Below.refl _ _).drwN _), HE.out.2.drwN _⟩
          case measure => simp [intOf]; omega
      · have b1 : (((e i).l : Int) != (id : Int)) = true := by simp; omega
        rw [if_neg h1] at hcn
        rw [if_neg (by intro h; exact h1 h.1)] at hs
        have HS : Hid (_ ∧ _) := ⟨hs, hcn⟩
        clear hs hcn
        go_quiet (fail)
        go_wp2
        go_roundw
        case rel => exact ⟨i + 1, by omega, by simp, by rw [HS.out.1, hc1], by rw [HS.out.1, hc2], by rw [HS.out.2]; exact HV.out.1, HV.out.2.drwN _⟩
        case measure => simp [intOf]; omega
    · obtain rfl : i = n := by omega
      have c0 := HPr.out.row.cells.1
      have c1 := HPr.out.row.cells.2.1
      have hle := hrd_le e id i
      obtain ⟨qq, hqq⟩ : ∃ qq, N - T = qq := ⟨_, rfl⟩
      have hql : qq ≤ 7 := by omega
      have HQ : Hid (N - T = qq) := hqq
      have HL : Hid (Calls Ybaz.prog 26 #[cfg N T] wr fun x w' => x = .returned (num qq) ∧ Below wr.heap.size wr w') := by
        rw [← hqq]
        exact ListQuorum_ok N T hN hT wr
      clear hqq HA HP
      by_cases hq : (hrd e id i).1 < qq
      · have dq : decide (((hrd e id i).1 : Int) < (qq : Int)) = true := by simp; omega
        go_wp2_with (go_at_call 26; refine HL.out.mono ?_; rintro x w1 ⟨rfl, hb1⟩)
        try simp only [Exit.inBlock, Exit.then]
        first | refine bodyPost_ret (results_none rfl _ _ _) rfl ?_ | refine bodyPost_end (results_none rfl _ _ _) rfl ?_
        have k1 := HBr.out.trans (hb1.mono HBr.out.size)
        have k2 := HW.out.1.trans (k1.mono (by rw [HW.out.2]; exact Nat.le_refl _))
        have hE := HM.out.2.below3 k2 HM.out.2.lt
        exact ⟨⟨_, rfl⟩, #[], 0, _, _, hE.has, (HPW.out.below k1).row, HM.out.1.other (k2.block eb (by obtain ⟨r, h, _⟩ := HM.out.1; exact h.lt)), k2.mono HB.out.2.2, fun b hb _ _ => k2.block b hb, .inl ⟨by unfold propR; rw [HQ.out, if_pos hq], rfl, rfl, rfl⟩⟩
      · have dq : decide (((hrd e id i).1 : Int) < (qq : Int)) = false := by simp; omega
        go_upto_region 12 with (go_at_call 26; refine HL.out.mono ?_; rintro x w1 ⟨rfl, hb1⟩)
        have hR : propR e id i (N - T) S0 = (ord.filter (cnd e id S0 i)).find? (good e id i qq) := by unfold propR; rw [HQ.out, if_neg hq]
        have HR : Hid _ := hR
        clear hR
        obtain ⟨cg, ccap, rfl, hcl, hcc⟩ := HCs.out.below hb1
        have hxs : ∀ x ∈ ord.filter (cnd e id S0 i), x < 6 := fun x hx => mem_ord.1 (List.mem_filter.1 hx).1
        have hxl := filter_le (cnd e id S0 i)
        generalize ord.filter (cnd e id S0 i) = xs at HR hcc hxs hxl ⊢
        have HX : Hid (_ ∧ _) := ⟨hcc, hxs⟩
        have HB1 : Hid (Below W.heap.size W w1) := HBr.out.trans (hb1.mono HBr.out.size)
        clear hcc hxs hb1 HCs HBr HPr HL c0 c1 hcl
        go_wp2_with fail
        go_loopw [60] (fun v wr => ∃ j, j ≤ xs.length ∧ v = num j ∧ (∀ t, t < j → ∀ x, xs[t]? = some x → good e id i qq x = false) ∧ Below w1.heap.size w1 wr) (fun v _ => xs.length - (intOf v).toNat)
        case atStart => exact ⟨0, Nat.zero_le _, rfl, fun t ht => absurd ht (Nat.not_lt_zero _), Below.refl _ _⟩
        case round =>
          obtain ⟨j, hj, rfl, hno, hBr⟩ := hrel
          have HNo : Hid (∀ t, t < j → ∀ x, xs[t]? = some x → good e id i qq x = false) := hno
          have hBW := HB1.out.trans (hBr.mono HB1.out.size)
          have HBr : Hid (Below w1.heap.size w1 wr ∧ Below W.heap.size W wr) := ⟨hBr, hBW⟩
          have HPr : Hid (Ph wr m N T id k ph ss st g i cap gv (ptr eb) (.string ⟨#[]⟩) (.int .i64 0) e) := HPW.out.below hBW
          have HFr : Hid (F.answers wr.tape) := by
            have := HF.out
            rwa [← HW.out.1.tape, ← hBW.tape] at this
          clear hno
          by_cases hlt : j < xs.length
          · have g1 : (j : Int) < (xs.length : Int) := by omega
            obtain ⟨x, hx⟩ : ∃ x, xs[j]? = some x := ⟨xs[j], by simp⟩
            have hx6 : x < 6 := HX.out.2 x (List.mem_of_getElem? hx)
            have cx : wr.cell? ⟨cg, j, none⟩ = some (str (poolL x)) := by
              have h := HX.out.1 j (str (poolL x)) (by rw [List.getElem?_map, hx]; rfl)
              exact (hBr.cell (World.block_lt_of_cell? w1 _ h)).trans h
            have Hx : Hid (xs[j]? = some x) := hx
            have c0 := HPr.out.row.cells.1
            have c1 := HPr.out.row.cells.2.1
            have c2 := HPr.out.row.cells.2.2.1
            clear hBr hBW hx
            go_upto_region 15 with fail
            by_cases hok : 1 ≤ x ∧ x ≤ 4
            · obtain ⟨cnt, hcnt⟩ : ∃ cnt, (nmg e id x i).1 = cnt := ⟨_, rfl⟩
              have hcl : cnt ≤ i := by rw [← hcnt]; exact nmg_le e id x i
              have Hc : Hid ((nmg e id x i).1 = cnt) := hcnt
              clear hcnt
              go_cut [81] (fun v wx => v = .bool (decide (qq ≤ cnt)) ∧ Below wr.heap.size wr wx)
              case first =>
                go_region_held3 (fun V => V.cell? ⟨m, 0, none⟩ = some (num N) ∧ V.cell? ⟨m, 1, none⟩ = some (num T) ∧ V.cell? ⟨m, 2, none⟩ = some (num id) ∧ Below wr.heap.size wr V) (first | assumption | exact ⟨c0, c1, c2, (Below.refl _ _).drew⟩)
                  (first
                    | (go_at_call 19; refine (CheckValue_good x hok _).mono ?_; rintro r V1 ⟨rfl, rfl⟩)
                    | (go_at_call 27; refine (naming_keep HPr.out x cnt hn hx6 HO.out Hc.out ?_).mono ?_; assumption; rintro r V2 ⟨rfl, hk2⟩; unfold Kept at hk2)
                    | (go_at_call 26; refine (quorum_keep HPr.out qq hN hT HQ.out ?_).mono ?_; assumption; rintro r V3 ⟨rfl, hk3⟩; unfold Kept at hk3))
                all_goals
                  go_wp2
                  go_meet
                  exact ⟨by simp, hk3.2.2.2⟩
              case rest =>
                obtain ⟨rfl, hbc⟩ := hcut
                have HBc : Hid (Below wr.heap.size wr wc) := hbc
                clear hbc c0 c1 c2 cx
                by_cases hgd : qq ≤ cnt
                · have dg : decide (qq ≤ cnt) = true := by simp; omega
                  rw [dg]
                  have hgood : good e id i qq x = true := by
                    unfold good
                    rw [Hc.out]
                    simp
                    omega
                  have Hgd : Hid _ := hgood
                  clear hgood
                  have HPc : Hid (Ph wc m N T id k ph ss st g i cap gv (ptr eb) (.string ⟨#[]⟩) (.int .i64 0) e) := HPr.out.below HBc.out
                  obtain ⟨⟨v17, c17⟩, ⟨v18, c18⟩, f17, f18⟩ := HPc.out.row.two 17 18 (by omega) (by omega)
                  go_upto_region 17 with fail
                  generalize hV1 : World.setCell (World.setCell wc _ _) _ _ = V1
                  have H1 : Hid (LkRow V1 m N T id gv (ptr eb) (.slice (some ⟨ph, 0, none⟩) N N) (str (poolL x)) (num k) ∧ MRow V1 eb S mb ∧ MapE V1 mb ∧ Below B w V1 ∧ B ≤ V1.heap.size ∧ m < V1.heap.size ∧ mb < V1.heap.size ∧ eb < V1.heap.size ∧ m ≠ mb ∧ (w.heap.size ≤ V1.heap.size ∧ ∀ b, b < w.heap.size → b ≠ m → b ≠ mb → V1.heap[b]? = w.heap[b]?)) := by
                    have k1 := HBr.out.2.trans (HBc.out.mono HBr.out.2.size)
                    have k2 := HW.out.1.trans (k1.mono (by rw [HW.out.2]; exact Nat.le_refl _))
                    have hel : eb < w.heap.size := by obtain ⟨r, h, _⟩ := HM.out.1; exact h.lt
                    have hml := HM.out.2.lt
                    have hmm : m < W.heap.size := HPW.out.row.lt
                    rw [HW.out.2] at hmm
                    have hE := HM.out.2.below3 k2 HM.out.2.lt
                    have hMr := HM.out.1.other (k2.block eb hel)
                    have hsz := k2.size
                    have hB3 := HB.out.2.2
                    have hrow := HPc.out.row
                    have hmne : m ≠ mb := by
                      obtain ⟨r, h, _⟩ := hrow
                      rintro rfl
                      have := h.symm.trans hE.has
                      simp at this
                    have hmeb : m ≠ eb := by
                      obtain ⟨r, h, _⟩ := hrow
                      obtain ⟨r2, h2, _⟩ := hMr
                      rintro rfl
                      have := h.symm.trans h2
                      simp at this
                    have ho : Only m wc V1 := by
                      rw [← hV1]
                      exact ((Only.refl _ _).setCell _ _).setCell _ _
                    have hs1 := ho.size
                    refine ⟨?_, hMr.other (ho.block eb (by omega)), hE.only ho (by omega), (k2.mono hB3).trans (ho.below HB.out.1), by omega, by omega, by omega, by omega, hmne, by omega, fun b hb h1 _ => (ho.block b h1).trans (k2.block b hb)⟩
                    rw [← hV1]
                    exact (hrow.set 17 _ (by omega) (by omega)).set 18 _ (by omega) (by omega)
                  clear hV1 c17 c18 f17 f18
                  have c2 := H1.out.1.cells.2.2.1
                  go_upto_region 18 with (go_at_call 28; refine (ELB_ok id k x hk _).mono ?_; rintro r V2 ⟨rfl, hb2⟩)
                  obtain ⟨bb, hbb⟩ : ∃ bb, V2.heap.size = bb := ⟨_, rfl⟩
                  rw [hbb]
                  generalize hV3 : World.alloc V2 _ = V3
                  have H2 : Hid (LkRow V3 m N T id gv (ptr eb) (.slice (some ⟨ph, 0, none⟩) N N) (str (poolL x)) (num k) ∧ MRow V3 eb S mb ∧ MapE V3 mb ∧ Row V3 bb 128 [num id, .string (lockS x), num (3 * k - 1)] ∧ Below B w V3 ∧ m ≠ mb ∧ bb ≠ mb ∧ (∀ b, b < w.heap.size → b ≠ m → b ≠ mb → V3.heap[b]? = w.heap[b]?)) := by
                    obtain ⟨a1, a2, a3, a4, a5, a6, a7, a8, a9, a10, a11⟩ := H1.out
                    have hs2 := hb2.size
                    rw [← hV3]
                    have b1 := a1.below hb2 a6
                    have b2 := a2.other (hb2.block eb a8)
                    have b3 := a3.below3 hb2 a7
                    exact ⟨b1.of_block (Below.heap_alloc _ _ _ (by omega)), b2.other (Below.heap_alloc _ _ _ (by omega)), b3.alloc _, Row.new _ 128 _ _ hbb.symm, (a4.trans (hb2.mono a5)).alloc (by omega) _, a9, by omega, fun b hb h1 h2 => (Below.heap_alloc _ _ _ (by omega)).trans ((hb2.block b (by omega)).trans (a11 b hb h1 h2))⟩
                  clear hV3 hbb hb2 H1 c2
                  have c11 := H2.out.1.cells.2.2.2.2.1
                  have d1 : V3.cell? ⟨bb, 1, none⟩ = some (.string (lockS x)) := by rw [H2.out.2.2.2.1.cell]; rfl
                  have d2 : V3.cell? ⟨bb, 2, none⟩ = some (num (3 * k - 1)) := by rw [H2.out.2.2.2.1.cell]; rfl
                  have HK : Hid (Calls Ybaz.prog 29 #[ptr eb, .string (lockS x), num (3 * k - 1)] V3.drew fun r V5 => r = .returned .nilIface ∧ (V5.cell? ⟨m, 11, none⟩ = some (ptr eb) ∧ V5.cell? ⟨bb, 1, none⟩ = some (.string (lockS x)) ∧ V5.cell? ⟨bb, 2, none⟩ = some (num (3 * k - 1))) ∧ Only mb V3 V5 ∧ V5.heap[mb]? = some (.map #[{ key := num (3 * k - 1), val := .string (lockS x), born := 0 }] 1)) := by
                    obtain ⟨a1, a2, a3, a4, a5, a6, a7, a8⟩ := H2.out
                    obtain ⟨r, r1, r2, r3, r4, r5⟩ := a2
                    refine (Broadcast_ok eb mb 0 (3 * k - 1) (lockS x) (by omega) V3.drew ((r1.cell 3).trans r4) ((r1.cell 4).trans r5) a3.has).mono ?_
                    rintro e V5 ⟨rfl, ho, hm⟩
                    have ho' : Only mb V3 V5 := ⟨ho.os, ho.tape, ho.output, ho.size, ho.block⟩
                    exact ⟨rfl, ⟨(ho'.cell m 11 a6).trans c11, (ho'.cell bb 1 a7).trans d1, (ho'.cell bb 2 a7).trans d2⟩, ho', hm⟩
                  refine wp_region_held_drew (S := fun V => V.cell? ⟨m, 11, none⟩ = some (ptr eb) ∧ V.cell? ⟨bb, 1, none⟩ = some (.string (lockS x)) ∧ V.cell? ⟨bb, 2, none⟩ = some (num (3 * k - 1))) (by kernel_rfl) ⟨c11, d1, d2⟩ (fun hHeld => ?_)
                  refine held_take (i := 0) (d := some 95) (v := (ptr m)) rfl rfl (by kernel_rfl) (by kernel_rfl) (by kernel_rfl) (fun _ _ _ h => h) (Or.inl ⟨by rfl, fun w hSw => by go_simp⟩) (by assumption) ?_
                  try simp only [Act.put, List.setIfInBounds_toArray, List.set_cons_zero, List.set_cons_succ]
                  refine held_take (i := 1) (d := some 96) (v := (ptr m)) rfl rfl (by kernel_rfl) (by kernel_rfl) (by kernel_rfl) (fun _ _ _ h => h) (Or.inl ⟨by rfl, fun w hSw => by go_simp⟩) (by assumption) ?_
                  try simp only [Act.put, List.setIfInBounds_toArray, List.set_cons_zero, List.set_cons_succ]
                  refine held_take (i := 2) (d := some 97) (v := (.pointer (some ⟨m, 11, none⟩))) rfl rfl (by kernel_rfl) (by kernel_rfl) (by kernel_rfl) (fun _ _ _ h => h) (Or.inl ⟨by rfl, fun w hSw => by go_simp⟩) (by assumption) ?_
                  try simp only [Act.put, List.setIfInBounds_toArray, List.set_cons_zero, List.set_cons_succ]
                  refine held_take (i := 3) (d := some 98) (v := (ptr eb)) rfl rfl (by kernel_rfl) (by kernel_rfl) (by kernel_rfl) (fun _ _ _ h => h) (Or.inl ⟨by rfl, fun w hSw => by (try dsimp only at hSw); go_simp⟩) (by assumption) ?_
                  try simp only [Act.put, List.setIfInBounds_toArray, List.set_cons_zero, List.set_cons_succ]
                  refine held_take (i := 4) (d := some 99) (v := (.pointer (some ⟨bb, 1, none⟩))) rfl rfl (by kernel_rfl) (by kernel_rfl) (by kernel_rfl) (fun _ _ _ h => h) (Or.inl ⟨by rfl, fun w hSw => by go_simp⟩) (by assumption) ?_
                  try simp only [Act.put, List.setIfInBounds_toArray, List.set_cons_zero, List.set_cons_succ]
                  refine held_take (i := 5) (d := some 100) (v := (.string (lockS x))) rfl rfl (by kernel_rfl) (by kernel_rfl) (by kernel_rfl) (fun _ _ _ h => h) (Or.inl ⟨by rfl, fun w hSw => by (try dsimp only at hSw); go_simp⟩) (by assumption) ?_
                  try simp only [Act.put, List.setIfInBounds_toArray, List.set_cons_zero, List.set_cons_succ]
                  refine held_take (i := 6) (d := some 101) (v := (.pointer (some ⟨bb, 2, none⟩))) rfl rfl (by kernel_rfl) (by kernel_rfl) (by kernel_rfl) (fun _ _ _ h => h) (Or.inl ⟨by rfl, fun w hSw => by go_simp⟩) (by assumption) ?_
                  try simp only [Act.put, List.setIfInBounds_toArray, List.set_cons_zero, List.set_cons_succ]
                  refine held_take (i := 7) (d := some 102) (v := (num (3 * k - 1))) rfl rfl (by kernel_rfl) (by kernel_rfl) (by kernel_rfl) (fun _ _ _ h => h) (Or.inl ⟨by rfl, fun w hSw => by (try dsimp only at hSw); go_simp⟩) (by assumption) ?_
                  try simp only [Act.put, List.setIfInBounds_toArray, List.set_cons_zero, List.set_cons_succ]
                  refine wpAnyH_ready (rs := [8]) (by kernel_rfl) (by simp) ?_
                  refine AllReadyH.cons rfl (fun K hK => ?_) AllReadyH.nil
                  go_simp
                  go_at_call 29
                  refine HK.out.mono ?_
                  rintro r V5 ⟨rfl, hk5, ho5, hm5⟩
                  refine hK.out _ _ hk5 (fun hHeld2 => ?_)
                  clear hK K
                  try simp only [Act.put, List.setIfInBounds_toArray, List.set_cons_zero, List.set_cons_succ]
                  refine wpAnyH_done (by kernel_rfl) ?_ _
                  go_wp2
                  try simp only [Exit.inBlock, Exit.then]
                  first | refine bodyPost_ret (results_none rfl _ _ _) rfl ?_ | refine bodyPost_end (results_none rfl _ _ _) rfl ?_
                  obtain ⟨a1, a2, a3, a4, a5, a6, a7, a8⟩ := H2.out
                  have hne : eb ≠ mb := by
                    obtain ⟨r, r1, _⟩ := a2
                    rintro rfl
                    have := r1.symm.trans a3.has
                    simp at this
                  refine ⟨⟨_, rfl⟩, _, _, _, _, hm5, a1.only ho5 a6, a2.other (ho5.block eb hne), a5.trans (ho5.below HB.out.2.1), fun b hb h1 h2 => (ho5.block b h2).trans (a8 b hb h1 h2), .inr ⟨x, hx6, ?_, rfl, rfl, rfl⟩⟩
                  rw [HR.out]
                  exact find_first xs j x (good e id i qq) Hx.out Hgd.out HNo.out
                · have dg : decide (qq ≤ cnt) = false := by simp; omega
                  rw [dg]
                  have hgood : good e id i qq x = false := by
                    unfold good
                    rw [Hc.out]
                    simp
                    omega
                  have Hgd : Hid _ := hgood
                  clear hgood
                  go_wp2_with fail
                  go_roundw
                  case rel =>
                    refine ⟨j + 1, by omega, by simp, ?_, HBr.out.1.trans (HBc.out.mono HBr.out.1.size)⟩
                    intro t ht y hy
                    by_cases e1 : t = j
                    · subst e1
                      rw [Hx.out] at hy
                      cases hy
                      exact Hgd.out
                    · exact HNo.out t (by omega) y hy
                  case measure => simp [intOf]; omega
            · have hbad : x = 0 ∨ x = 5 := by omega
              go_cut [81] (fun v wx => v = .bool false ∧ Below wr.heap.size wr wx)
              case first =>
                refine wp_region_held_drew (S := fun V => V.cell? ⟨m, 0, none⟩ = some (num N) ∧ V.cell? ⟨m, 1, none⟩ = some (num T) ∧ V.cell? ⟨m, 2, none⟩ = some (num id) ∧ Below wr.heap.size wr V) (by kernel_rfl) ⟨c0, c1, c2, (Below.refl _ _).drew⟩ (fun hHeld => ?_)
                refine held_take (i := 0) (d := some 64) (v := (str (poolL x))) rfl rfl (by kernel_rfl) (by kernel_rfl) (by kernel_rfl) (fun _ _ _ h => h) (Or.inl ⟨by rfl, fun w hSw => by go_simp⟩) (by assumption) ?_
                try simp only [Act.put, List.setIfInBounds_toArray, List.set_cons_zero, List.set_cons_succ]
                refine wpAnyH_ready (rs := [1]) (by kernel_rfl) (by simp) ?_
                refine AllReadyH.cons rfl (fun K hK => ?_) AllReadyH.nil
                go_simp
                go_at_call 19
                refine (bad_keep HPr.out F x hbad HFr.out hHeld).mono ?_
                rintro r V1 ⟨⟨b, rfl⟩, hk1⟩
                refine hK.out _ _ hk1 (fun hHeld2 => ?_)
                clear hK K
                try simp only [Act.put, List.setIfInBounds_toArray, List.set_cons_zero, List.set_cons_succ]
                refine held_take (i := 2) (d := some 66) (v := (.bool false)) rfl rfl (by kernel_rfl) (by kernel_rfl) (by kernel_rfl) (fun _ _ _ h => h) (Or.inl ⟨by rfl, fun w hSw => by go_simp⟩) (by assumption) ?_
                try simp only [Act.put, List.setIfInBounds_toArray, List.set_cons_zero, List.set_cons_succ]
                refine held_take (i := 3) (d := some 67) (v := (.bool false)) rfl rfl (by kernel_rfl) (by kernel_rfl) (by kernel_rfl) (fun _ _ _ h => h) (Or.inl ⟨by rfl, fun w hSw => by go_simp⟩) (by assumption) ?_
                try simp only [Act.put, List.setIfInBounds_toArray, List.set_cons_zero, List.set_cons_succ]
                refine held_take (i := 4) (d := some 68) (v := undef) rfl rfl (by kernel_rfl) (by kernel_rfl) (by kernel_rfl) (fun _ _ _ h => h) (Or.inr ⟨by rfl, rfl⟩) (by assumption) ?_
                try simp only [Act.put, List.setIfInBounds_toArray, List.set_cons_zero, List.set_cons_succ]
                refine held_take (i := 5) (d := some 69) (v := undef) rfl rfl (by kernel_rfl) (by kernel_rfl) (by kernel_rfl) (fun _ _ _ h => h) (Or.inr ⟨by rfl, rfl⟩) (by assumption) ?_
                try simp only [Act.put, List.setIfInBounds_toArray, List.set_cons_zero, List.set_cons_succ]
                refine held_take (i := 6) (d := some 70) (v := undef) rfl rfl (by kernel_rfl) (by kernel_rfl) (by kernel_rfl) (fun _ _ _ h => h) (Or.inr ⟨by rfl, rfl⟩) (by assumption) ?_
                try simp only [Act.put, List.setIfInBounds_toArray, List.set_cons_zero, List.set_cons_succ]
                refine held_take (i := 7) (d := some 71) (v := undef) rfl rfl (by kernel_rfl) (by kernel_rfl) (by kernel_rfl) (fun _ _ _ h => h) (Or.inr ⟨by rfl, rfl⟩) (by assumption) ?_
                try simp only [Act.put, List.setIfInBounds_toArray, List.set_cons_zero, List.set_cons_succ]
                refine held_take (i := 8) (d := some 72) (v := undef) rfl rfl (by kernel_rfl) (by kernel_rfl) (by kernel_rfl) (fun _ _ _ h => h) (Or.inr ⟨by rfl, rfl⟩) (by assumption) ?_
                try simp only [Act.put, List.setIfInBounds_toArray, List.set_cons_zero, List.set_cons_succ]
                refine held_take (i := 9) (d := some 73) (v := undef) rfl rfl (by kernel_rfl) (by kernel_rfl) (by kernel_rfl) (fun _ _ _ h => h) (Or.inr ⟨by rfl, rfl⟩) (by assumption) ?_
                try simp only [Act.put, List.setIfInBounds_toArray, List.set_cons_zero, List.set_cons_succ]
                refine held_take (i := 10) (d := some 74) (v := undef) rfl rfl (by kernel_rfl) (by kernel_rfl) (by kernel_rfl) (fun _ _ _ h => h) (Or.inr ⟨by rfl, rfl⟩) (by assumption) ?_
                try simp only [Act.put, List.setIfInBounds_toArray, List.set_cons_zero, List.set_cons_succ]
                refine held_take (i := 11) (d := some 75) (v := undef) rfl rfl (by kernel_rfl) (by kernel_rfl) (by kernel_rfl) (fun _ _ _ h => h) (Or.inr ⟨by rfl, rfl⟩) (by assumption) ?_
                try simp only [Act.put, List.setIfInBounds_toArray, List.set_cons_zero, List.set_cons_succ]
                refine held_take (i := 12) (d := some 76) (v := undef) rfl rfl (by kernel_rfl) (by kernel_rfl) (by kernel_rfl) (fun _ _ _ h => h) (Or.inr ⟨by rfl, rfl⟩) (by assumption) ?_
                try simp only [Act.put, List.setIfInBounds_toArray, List.set_cons_zero, List.set_cons_succ]
                refine held_take (i := 13) (d := some 77) (v := undef) rfl rfl (by kernel_rfl) (by kernel_rfl) (by kernel_rfl) (fun _ _ _ h => h) (Or.inr ⟨by rfl, rfl⟩) (by assumption) ?_
                try simp only [Act.put, List.setIfInBounds_toArray, List.set_cons_zero, List.set_cons_succ]
                refine held_take (i := 14) (d := some 78) (v := undef) rfl rfl (by kernel_rfl) (by kernel_rfl) (by kernel_rfl) (fun _ _ _ h => h) (Or.inr ⟨by rfl, rfl⟩) (by assumption) ?_
                try simp only [Act.put, List.setIfInBounds_toArray, List.set_cons_zero, List.set_cons_succ]
                refine held_take (i := 15) (d := some 79) (v := undef) rfl rfl (by kernel_rfl) (by kernel_rfl) (by kernel_rfl) (fun _ _ _ h => h) (Or.inr ⟨by rfl, rfl⟩) (by assumption) ?_
                try simp only [Act.put, List.setIfInBounds_toArray, List.set_cons_zero, List.set_cons_succ]
                refine held_take (i := 16) (d := some 80) (v := undef) rfl rfl (by kernel_rfl) (by kernel_rfl) (by kernel_rfl) (fun _ _ _ h => h) (Or.inr ⟨by rfl, rfl⟩) (by assumption) ?_
                try simp only [Act.put, List.setIfInBounds_toArray, List.set_cons_zero, List.set_cons_succ]
                refine held_take (i := 17) (d := some 81) (v := (.bool false)) rfl rfl (by kernel_rfl) (by kernel_rfl) (by kernel_rfl) (fun _ _ _ h => h) (Or.inl ⟨by rfl, fun w hSw => by go_simp⟩) (by assumption) ?_
                try simp only [Act.put, List.setIfInBounds_toArray, List.set_cons_zero, List.set_cons_succ]
                refine wpAnyH_done (by kernel_rfl) ?_ _
                go_wp2
                go_meet
                exact ⟨rfl, hk1.2.2.2⟩
              case rest =>
                obtain ⟨rfl, hbc⟩ := hcut
                have HBc : Hid (Below wr.heap.size wr wc) := hbc
                clear hbc c0 c1 c2 cx
                have hgood : good e id i qq x = false := by
                  unfold good
                  rcases hbad with rfl | rfl <;> simp
                have Hgd : Hid _ := hgood
                clear hgood hbad hok
                go_wp2_with fail
                go_roundw
                case rel =>
                  refine ⟨j + 1, by omega, by simp, ?_, HBr.out.1.trans (HBc.out.mono HBr.out.1.size)⟩
                  intro t ht y hy
                  by_cases e1 : t = j
                  · subst e1
                    rw [Hx.out] at hy
                    cases hy
                    exact Hgd.out
                  · exact HNo.out t (by omega) y hy
                case measure => simp [intOf]; omega
          · obtain rfl : j = xs.length := by omega
            go_wp2_with fail
            try simp only [Exit.inBlock, Exit.then]
            first | refine bodyPost_ret (results_none rfl _ _ _) rfl ?_ | refine bodyPost_end (results_none rfl _ _ _) rfl ?_
            have k2 := HW.out.1.trans (hBW.mono (by rw [HW.out.2]; exact Nat.le_refl _))
            have hE := HM.out.2.below3 k2 HM.out.2.lt
            refine ⟨⟨_, rfl⟩, #[], 0, _, _, hE.has, HPr.out.row, HM.out.1.other (k2.block eb (by obtain ⟨r, h, _⟩ := HM.out.1; exact h.lt)), k2.mono HB.out.2.2, fun b hb _ _ => k2.block b hb, .inl ⟨?_, rfl, rfl, rfl⟩⟩
            rw [HR.out, List.find?_eq_none]
            intro y hy
            obtain ⟨t, ht, rfl⟩ := List.mem_iff_getElem.1 hy
            rw [HNo.out t ht xs[t] (by simp)]
            simp
end Propose
end Go.Proofs.YbulkcrfgGreatFmt
