/-
  PLAIN: 'divide': the search's state against the partition's.
-/
import Derived.Test.Qxb6602148aTJ
import Derived.Test.Qxb6602148aVis
attribute [local go_sem] Go.Proofs.Qxb6602148a.yTo Go.Proofs.Qxb6602148a.yUpon
namespace Go.Proofs.Qxb6602148a
set_option linter.unusedVariables false
set_option linter.unusedSimpArgs false

/-- The digraph between the slots sl 0 .. sl (n-1). -/
def dg (P : PS) (n : Nat) (sl : Nat → Nat) : DG := { inA := fun v => ∃ j, j < n ∧ sl j = v, deg := fun v => P.on v, tgt := fun v k => (P.to (P.out v k).toNat).toNat }

/-- What 'divide' is handed. -/
structure DGo (P : PS) (c n : Nat) (sl : Nat → Nat) : Prop where
  cC : c < P.nC
  mn : P.mn c = n
  mem : ∀ j, j < n → P.mem c j = ((sl j : Nat) : Int)
  n1 : n ≤ 4096
  nE : P.nE ≤ 4096
  nS : P.nS ≤ 100000
  nC : P.nC ≤ 100000
  lt : ∀ j, j < n → sl j < P.nS
  inj : ∀ i j, i < n → j < n → sl i = sl j → i = j
  comp : ∀ j, j < n → P.comp (sl j) = (c : Int)
  idx : ∀ v, v < P.nS → P.idx v = 0
  edge : ∀ j k, j < n → k < P.on (sl j) → ∃ e t : Nat, P.out (sl j) k = (e : Int) ∧ e < P.nE ∧ P.fr e = ((sl j : Nat) : Int) ∧ P.to e = (t : Int) ∧ (∃ j', j' < n ∧ sl j' = t) ∧ t ≠ sl j
  incr : ∀ j k k', j < n → k < k' → k' < P.on (sl j) → P.out (sl j) k < P.out (sl j) k'
  nK : P.nK = 0
  nQ : P.nQ = 0
  sp : Spare P
  free : ∀ j i, j < n → i < P.nF → P.free i ≠ ((sl j : Nat) : Int)
  unus : ∀ i, i < P.nU → P.unused i ≠ (c : Int)
  m0 : ∀ j, j < P.nU → P.mn (P.unused j).toNat = 0
  mks : 0 ≤ P.marks ∧ P.marks ≤ 500000
  mark : ∀ s, s < P.nS → P.mark s ≤ P.marks

/-- The partition while the search goes on: P as it was handed. -/
structure DR (P : PS) (c : Nat) (s : TS) (P' : PS) : Prop where
  eq : ∃ comp idx low nK stk nQ cq, P' = { P with mn := upn P.mn c 0, comp := comp, idx := idx, low := low, nK := nK, stk := stk, nQ := nQ, cq := cq }
  comp : ∀ v, P'.comp v = if s.lab v = 0 then P.comp v else -1
  idx : ∀ v, v < P.nS → P'.idx v = ((s.idx v : Nat) : Int)
  low : ∀ j, j < s.m → P'.low (s.nd j) = ((s.low (s.nd j) : Nat) : Int)
  nK : P'.nK = s.h
  stk : ∀ i, i < s.h → P'.stk i = ((s.st i : Nat) : Int)
  nQ : P'.nQ = s.m
  cq : ∀ j, j < s.m → P'.cq (2 * j) = ((s.nd j : Nat) : Int) ∧ P'.cq (2 * j + 1) = ((s.sc (s.nd j) : Nat) : Int)

section
variable {P P' : PS} {c : Nat} {s : TS} {g : DG}

theorem DR.keeps (h : DR P c s P') : P'.nE = P.nE ∧ P'.fr = P.fr ∧ P'.to = P.to ∧ P'.nS = P.nS ∧ P'.on = P.on ∧ P'.out = P.out ∧ P'.nC = P.nC := by
  obtain ⟨_, _, _, _, _, _, _, e⟩ := h.eq
  rw [e]
  exact ⟨rfl, rfl, rfl, rfl, rfl, rfl, rfl⟩
theorem DR.init (h0 : P.nK = 0) (h1 : P.nQ = 0) (h2 : ∀ v, v < P.nS → P.idx v = 0) : DR P c TS.init (P.dropMem c) := by
  refine ⟨⟨P.comp, P.idx, P.low, P.nK, P.stk, P.nQ, P.cq, rfl⟩, fun v => rfl, fun v hv => h2 v hv, fun j hj => ?_, h0, fun i hi => ?_, h1, fun j hj => ?_⟩
  · have hj : j < 0 := hj
    omega
  · have hi : i < 0 := hi
    omega
  · have hj : j < 0 := hj
    omega

theorem DR.root (h : DR P c s P') (inv : TInv g s) (hm : s.m = 0) {r : Nat} (hl : s.lab r = 0) : DR P c (s.root r) (P'.visit r ((s.vis : Int) + 1)) := by
  have hh := inv.p4 hm
  have iz : s.idx r = 0 := by
    by_cases hv : s.idx r = 0
    · exact hv
    · obtain ⟨i, hi, _⟩ := inv.s3 r hv; omega
  have sc0 := inv.c0 r iz hl
  obtain ⟨x1, x2, x3, x4, x5, x6, x7, e⟩ := h.eq
  have nK : P'.nK = 0 := h.nK.trans hh
  have nQ : P'.nQ = 0 := h.nQ.trans hm
  refine ⟨⟨_, _, _, _, _, _, _, by rw [e]; rfl⟩, h.comp, fun v hv => ?_, fun j hj => ?_, ?_, fun i hi => ?_, ?_, fun j hj => ?_⟩
  · show upd P'.idx r ((s.vis : Int) + 1) v = ((up s.idx r (s.vis + 1) v : Nat) : Int)
    by_cases ev : v = r
    · subst ev; rw [upd_same, up_same]; rfl
    · rw [upd_other _ _ ev, up_other _ _ ev]; exact h.idx v hv
  · have hj : j < 1 := hj
    have : j = 0 := by omega
    subst this
    show upd P'.low r ((s.vis : Int) + 1) (up s.nd 0 r 0) = ((up s.low r (s.vis + 1) (up s.nd 0 r 0) : Nat) : Int)
    rw [up_same, upd_same, up_same]; rfl
  · show P'.nK + 1 = 1; rw [nK]
  · have hi : i < 1 := hi
    have : i = 0 := by omega
    subst this
    show upd P'.stk P'.nK r 0 = ((up s.st 0 r 0 : Nat) : Int)
    rw [nK, upd_same, up_same]
  · show P'.nQ + 1 = 1; rw [nQ]
  · have hj : j < 1 := hj
    have : j = 0 := by omega
    subst this
    show upd (upd P'.cq (2 * P'.nQ) r) (2 * P'.nQ + 1) 0 (2 * 0) = ((up s.nd 0 r 0 : Nat) : Int) ∧ upd (upd P'.cq (2 * P'.nQ) r) (2 * P'.nQ + 1) 0 (2 * 0 + 1) = ((s.sc (up s.nd 0 r 0) : Nat) : Int)
    rw [nQ, up_same, sc0]
    refine ⟨?_, ?_⟩
    · rw [upd_other _ _ (by omega), upd_same]
    · rw [upd_same]; rfl

/-- The path's end looks at its next edge. -/
def PS.advQ (P : PS) (j : Nat) (x : Int) : PS := { P with cq := upd P.cq (2 * j + 1) x }
theorem DR.adv (h : DR P c s P') (inv : TInv g s) (hm : 0 < s.m) : DR P c s.adv (P'.advQ (s.m - 1) ((s.sc s.top : Int) + 1)) := by
  obtain ⟨x1, x2, x3, x4, x5, x6, x7, e⟩ := h.eq
  refine ⟨⟨_, _, _, _, _, _, _, by rw [e]; rfl⟩, h.comp, h.idx, h.low, h.nK, h.stk, h.nQ, fun j hj => ?_⟩
  have hj : j < s.m := hj
  obtain ⟨c1, c2⟩ := h.cq j hj
  show upd P'.cq (2 * (s.m - 1) + 1) _ (2 * j) = _ ∧ upd P'.cq (2 * (s.m - 1) + 1) _ (2 * j + 1) = ((up s.sc s.top (s.sc s.top + 1) (s.nd j) : Nat) : Int)
  refine ⟨by rw [upd_other _ _ (by omega)]; exact c1, ?_⟩
  by_cases ej : j = s.m - 1
  · subst ej
    rw [upd_same, show s.nd (s.m - 1) = s.top from rfl, up_same]; rfl
  · have : s.nd j ≠ s.top := fun h' => ej (inv.nd_inj hj (by omega) h')
    rw [upd_other _ _ (by omega), up_other _ _ this]; exact c2
theorem DR.back (h : DR P c s P') (inv : TInv g s) (hm : 0 < s.m) {t : Nat} : DR P c (s.back t) { (P'.advQ (s.m - 1) ((s.sc s.top : Int) + 1)) with low := upd P'.low s.top ((min (s.low s.top) (s.idx t) : Nat) : Int) } := by
  have ha := h.adv inv hm
  obtain ⟨x1, x2, x3, x4, x5, x6, x7, e⟩ := h.eq
  refine ⟨⟨_, _, _, _, _, _, _, by rw [e]; rfl⟩, h.comp, h.idx, fun j hj => ?_, h.nK, h.stk, h.nQ, ha.cq⟩
  have hj : j < s.m := hj
  show upd P'.low s.top _ (s.nd j) = ((up s.low s.top _ (s.nd j) : Nat) : Int)
  by_cases ej : s.nd j = s.top
  · rw [ej, upd_same, up_same]
  · rw [upd_other _ _ ej, up_other _ _ ej]; exact h.low j hj
theorem DR.down (h : DR P c s P') (inv : TInv g s) (hm : 0 < s.m) {t : Nat} (hl : s.lab t = 0) (hi : s.idx t = 0) : DR P c (s.down t) ((P'.advQ (s.m - 1) ((s.sc s.top : Int) + 1)).visit t ((s.vis : Int) + 1)) := by
  have ha := h.adv inv hm
  have sc0 := inv.c0 t hi hl
  have ntt : t ≠ s.top := fun e => (inv.topf hm).2.2.2.2 (by rw [← e]; exact hi)
  have nnd : ∀ j, j < s.m → s.nd j ≠ t := fun j hj e => (inv.s1 _ (inv.p1 j hj).1).2.2 (by rw [(inv.p1 j hj).2, e]; exact hi)
  obtain ⟨x1, x2, x3, x4, x5, x6, x7, e⟩ := h.eq
  have nK := h.nK
  have nQ := h.nQ
  refine ⟨⟨_, _, _, _, _, _, _, by rw [e]; rfl⟩, h.comp, fun v hv => ?_, fun j hj => ?_, ?_, fun i hi' => ?_, ?_, fun j hj => ?_⟩
  · show upd P'.idx t ((s.vis : Int) + 1) v = ((up s.idx t (s.vis + 1) v : Nat) : Int)
    by_cases ev : v = t
    · subst ev; rw [upd_same, up_same]; rfl
    · rw [upd_other _ _ ev, up_other _ _ ev]; exact h.idx v hv
  · have hj : j < s.m + 1 := hj
    show upd P'.low t ((s.vis : Int) + 1) (up s.nd s.m t j) = ((up s.low t (s.vis + 1) (up s.nd s.m t j) : Nat) : Int)
    by_cases ej : j = s.m
    · subst ej; rw [up_same, upd_same, up_same]; rfl
    · rw [up_other _ _ ej, upd_other _ _ (nnd j (by omega)), up_other _ _ (nnd j (by omega))]; exact h.low j (by omega)
  · show P'.nK + 1 = s.h + 1; rw [nK]
  · have hi' : i < s.h + 1 := hi'
    show upd P'.stk P'.nK t i = ((up s.st s.h t i : Nat) : Int)
    rw [nK]
    by_cases ei : i = s.h
    · subst ei; rw [upd_same, up_same]
    · rw [upd_other _ _ ei, up_other _ _ ei]; exact h.stk i (by omega)
  · show P'.nQ + 1 = s.m + 1; rw [nQ]
  · have hj : j < s.m + 1 := hj
    show upd (upd (P'.advQ (s.m - 1) ((s.sc s.top : Int) + 1)).cq (2 * P'.nQ) t) (2 * P'.nQ + 1) 0 (2 * j) = ((up s.nd s.m t j : Nat) : Int) ∧ upd (upd (P'.advQ (s.m - 1) ((s.sc s.top : Int) + 1)).cq (2 * P'.nQ) t) (2 * P'.nQ + 1) 0 (2 * j + 1) = ((up s.sc s.top (s.sc s.top + 1) (up s.nd s.m t j) : Nat) : Int)
    rw [nQ]
    by_cases ej : j = s.m
    · subst ej
      rw [up_same, up_other _ _ ntt, sc0]
      exact ⟨by rw [upd_other _ _ (by omega), upd_same], by rw [upd_same]; rfl⟩
    · obtain ⟨c1, c2⟩ := ha.cq j (by show j < s.m; omega)
      rw [up_other _ _ ej]
      exact ⟨by rw [upd_other _ _ (by omega), upd_other _ _ (by omega)]; exact c1, by rw [upd_other _ _ (by omega), upd_other _ _ (by omega)]; exact c2⟩
/-- The path's end is left, its low handed on. -/
theorem DR.stay (h : DR P c s P') (inv : TInv g s) (hm : 2 ≤ s.m) : DR P c s.stay { P' with nQ := s.m - 1, low := upd P'.low (s.nd (s.m - 2)) ((min (s.low (s.nd (s.m - 2))) (s.low s.top) : Nat) : Int) } := by
  obtain ⟨x1, x2, x3, x4, x5, x6, x7, e⟩ := h.eq
  refine ⟨⟨_, _, _, _, _, _, _, by rw [e]⟩, h.comp, h.idx, fun j hj => ?_, h.nK, h.stk, rfl, fun j hj => ?_⟩
  · have hj : j < s.m - 1 := hj
    show upd P'.low (s.nd (s.m - 2)) _ (s.nd j) = ((up s.low (s.nd (s.m - 2)) _ (s.nd j) : Nat) : Int)
    by_cases ej : s.nd j = s.nd (s.m - 2)
    · rw [ej, upd_same, up_same]
    · rw [upd_other _ _ ej, up_other _ _ ej]; exact h.low j (by omega)
  · have hj : j < s.m - 1 := hj
    exact h.cq j (by omega)

/-- On the stack from the path's end on. -/
def TS.hang (s : TS) (v : Nat) : Bool := (List.range s.h).any fun i => decide (s.sp (s.m - 1) ≤ i) && decide (s.st i = v)
theorem TS.hang_iff (s : TS) (v : Nat) : s.hang v = true ↔ ∃ i, s.sp (s.m - 1) ≤ i ∧ i < s.h ∧ s.st i = v := by
  unfold TS.hang
  rw [List.any_eq_true]
  constructor
  · rintro ⟨i, hi, hh⟩
    rw [List.mem_range] at hi
    simp only [Bool.and_eq_true, decide_eq_true_eq] at hh
    exact ⟨i, hh.1, hi, hh.2⟩
  · rintro ⟨i, h1, h2, h3⟩
    refine ⟨i, List.mem_range.2 h2, ?_⟩
    simp only [Bool.and_eq_true, decide_eq_true_eq]
    exact ⟨h1, h3⟩
/-- The state behind it. -/
def TS.out (s : TS) : TS := s.pop (fun v => if s.hang v then 0 else s.idx v) (fun v => if s.hang v then s.nl + 1 else s.lab v) s.low
theorem TInv.out (h : TInv g s) (hm : 0 < s.m) (hq : s.sc s.top = g.deg s.top) (hl : s.low s.top = s.idx s.top) : TInv g s.out := by
  refine h.pop hm hq hl _ _ _ (fun i h1 h2 => ?_) (fun v hv => ?_) (fun j hj => rfl)
  · have : s.hang (s.st i) = true := (s.hang_iff _).2 ⟨i, h1, h2, rfl⟩
    simp only [this, if_true]; exact ⟨trivial, trivial⟩
  · have : s.hang v = false := by
      cases hb : s.hang v with
      | false => rfl
      | true => obtain ⟨i, h1, h2, h3⟩ := (s.hang_iff _).1 hb; exact absurd h3 (hv i h1 h2)
    simp only [this, Bool.false_eq_true, if_false]; exact ⟨trivial, trivial⟩
/-- The partition behind it. -/
theorem DR.out (h : DR P c s P') (hm : 0 < s.m) {P2 : PS} (eq : ∃ comp idx low nK stk nQ cq, P2 = { P with mn := upn P.mn c 0, comp := comp, idx := idx, low := low, nK := nK, stk := stk, nQ := nQ, cq := cq })
    (c1 : ∀ i, s.sp (s.m - 1) ≤ i → i < s.h → P2.comp (s.st i) = -1 ∧ P2.idx (s.st i) = 0) (c2 : ∀ v, (∀ i, s.sp (s.m - 1) ≤ i → i < s.h → s.st i ≠ v) → P2.comp v = P'.comp v ∧ P2.idx v = P'.idx v)
    (lw : ∀ j, j + 1 < s.m → P2.low (s.nd j) = ((s.low (s.nd j) : Nat) : Int)) (nK : P2.nK = s.sp (s.m - 1)) (stk : ∀ i, i < s.sp (s.m - 1) → P2.stk i = P'.stk i) (hsp : s.sp (s.m - 1) ≤ s.h) (nQ : P2.nQ = s.m - 1) (cq : ∀ j, P2.cq j = P'.cq j) : DR P c s.out P2 := by
  have key : ∀ v, (s.hang v = true ∧ P2.comp v = -1 ∧ P2.idx v = 0) ∨ (s.hang v = false ∧ P2.comp v = P'.comp v ∧ P2.idx v = P'.idx v) := by
    intro v
    cases hb : s.hang v with
    | true =>
      obtain ⟨i, h1, h2, h3⟩ := (s.hang_iff _).1 hb
      have := c1 i h1 h2
      rw [h3] at this
      exact .inl ⟨rfl, this⟩
    | false =>
      refine .inr ⟨rfl, c2 v (fun i h1 h2 h3 => ?_)⟩
      have := (s.hang_iff v).2 ⟨i, h1, h2, h3⟩
      rw [hb] at this; cases this
  refine ⟨eq, fun v => ?_, fun v hv => ?_, fun j hj => ?_, nK, fun i hi => ?_, nQ, fun j hj => ?_⟩
  · show P2.comp v = if (if s.hang v then s.nl + 1 else s.lab v) = 0 then P.comp v else -1
    rcases key v with ⟨k1, k2, k3⟩ | ⟨k1, k2, k3⟩
    · rw [k2, k1]; simp
    · rw [k2, k1]; simpa using h.comp v
  · show P2.idx v = ((if s.hang v then 0 else s.idx v : Nat) : Int)
    rcases key v with ⟨k1, k2, k3⟩ | ⟨k1, k2, k3⟩
    · rw [k3, k1]; simp
    · rw [k3, k1]; simpa using h.idx v hv
  · have hj : j < s.m - 1 := hj
    exact lw j (by omega)
  · have hi : i < s.sp (s.m - 1) := hi
    rw [stk i hi]; exact h.stk i (by omega)
  · have hj : j < s.m - 1 := hj
    rw [cq, cq]; exact h.cq j (by omega)
end

/-- The lists of 'strong'. -/
structure Listed (g : DG) (s : TS) (K : Nat) (ln : Nat → Nat) (ls : Nat → Nat → Nat) (lk : Nat → Nat) : Prop where
  k1 : ∀ k, k < K → 1 ≤ lk k ∧ lk k ≤ s.nl
  k2 : ∀ k k', k < K → k' < K → lk k = lk k' → k = k'
  k3 : ∀ k, k < K → 2 ≤ ln k
  k4 : ∀ k j, k < K → j < ln k → s.lab (ls k j) = lk k
  k5 : ∀ k i j, k < K → i < ln k → j < ln k → ls k i = ls k j → i = j
  k6 : ∀ k v, k < K → s.lab v = lk k → ∃ j, j < ln k ∧ ls k j = v
  k7 : ∀ v v', v ≠ v' → s.lab v ≠ 0 → s.lab v = s.lab v' → ∃ k, k < K ∧ lk k = s.lab v

section
variable {g : DG} {s s' : TS} {K : Nat} {ln : Nat → Nat} {ls : Nat → Nat → Nat} {lk : Nat → Nat}
theorem Listed.init (g : DG) : Listed g TS.init 0 ln ls lk :=
  ⟨fun k hk => by omega, fun k k' hk => by omega, fun k hk => by omega, fun k j hk => by omega, fun k i j hk => by omega, fun k v hk => by omega, fun v v' _ hl => absurd rfl hl⟩
theorem Listed.same (h : Listed g s K ln ls lk) (e1 : s'.lab = s.lab) (e2 : s'.nl = s.nl) : Listed g s' K ln ls lk :=
  ⟨by rw [e2]; exact h.k1, h.k2, h.k3, by rw [e1]; exact h.k4, h.k5, by rw [e1]; exact h.k6, by rw [e1]; exact h.k7⟩
theorem TInv.hang_lab (inv : TInv g s) {v : Nat} (hv : s.hang v = true) : s.lab v = 0 := by
  obtain ⟨i, h1, h2, h3⟩ := (s.hang_iff v).1 hv
  rw [← h3]; exact (inv.s1 i h2).2.1
theorem out_lab (inv : TInv g s) {v x : Nat} (hx : 1 ≤ x) : s.out.lab v = x ↔ (s.hang v = true ∧ x = s.nl + 1) ∨ (s.hang v = false ∧ s.lab v = x) := by
  show (if s.hang v then s.nl + 1 else s.lab v) = x ↔ _
  cases hb : s.hang v <;> simp [eq_comm]
theorem Listed.one (h : Listed g s K ln ls lk) (inv : TInv g s) (h1 : s.h - s.sp (s.m - 1) = 1) : Listed g s.out K ln ls lk := by
  have lab : ∀ v x, 1 ≤ x → x ≤ s.nl → (s.out.lab v = x ↔ s.lab v = x) := by
    intro v x hx hx2
    rw [out_lab inv hx]
    constructor
    · rintro (⟨_, e⟩ | ⟨_, e⟩)
      · omega
      · exact e
    · intro e
      refine .inr ⟨?_, e⟩
      cases hb : s.hang v with
      | false => rfl
      | true => have := inv.hang_lab hb; omega
  refine ⟨fun k hk => ⟨(h.k1 k hk).1, by show _ ≤ s.nl + 1; have := (h.k1 k hk).2; omega⟩, h.k2, h.k3, fun k j hk hj => ?_, h.k5, fun k v hk hv => ?_, fun v v' hne hl he => ?_⟩
  · exact (lab _ _ (h.k1 k hk).1 (h.k1 k hk).2).2 (h.k4 k j hk hj)
  · exact h.k6 k v hk ((lab _ _ (h.k1 k hk).1 (h.k1 k hk).2).1 hv)
  · have hv1 : 1 ≤ s.out.lab v := by omega
    rcases (out_lab inv hv1 (v := v)).1 rfl with ⟨a1, a2⟩ | ⟨a1, a2⟩
    · rcases (out_lab inv hv1 (v := v')).1 he.symm with ⟨b1, b2⟩ | ⟨b1, b2⟩
      · obtain ⟨i, i1, i2, i3⟩ := (s.hang_iff v).1 a1
        obtain ⟨j, j1, j2, j3⟩ := (s.hang_iff v').1 b1
        exact absurd (by rw [← i3, ← j3, show i = j by omega]) hne
      · have := inv.a4 v'; omega
    · rcases (out_lab inv hv1 (v := v')).1 he.symm with ⟨b1, b2⟩ | ⟨b1, b2⟩
      · have := inv.a4 v; omega
      · obtain ⟨k, k1, k2⟩ := h.k7 v v' hne (by omega) (a2.trans b2.symm)
        exact ⟨k, k1, k2.trans a2⟩
theorem Listed.more (h : Listed g s K ln ls lk) (inv : TInv g s) (h1 : 2 ≤ s.h - s.sp (s.m - 1)) :
    Listed g s.out (K + 1) (up ln K (s.h - s.sp (s.m - 1))) (fun k => if k = K then fun j => s.st (s.sp (s.m - 1) + j) else ls k) (up lk K (s.nl + 1)) := by
  have lab : ∀ v x, 1 ≤ x → x ≤ s.nl → (s.out.lab v = x ↔ s.lab v = x) := by
    intro v x hx hx2
    rw [out_lab inv hx]
    constructor
    · rintro (⟨_, e⟩ | ⟨_, e⟩)
      · omega
      · exact e
    · intro e
      refine .inr ⟨?_, e⟩
      cases hb : s.hang v with
      | false => rfl
      | true => have := inv.hang_lab hb; omega
  have lnew : ∀ v, s.out.lab v = s.nl + 1 ↔ s.hang v = true := by
    intro v
    rw [out_lab inv (by omega)]
    constructor
    · rintro (⟨e, _⟩ | ⟨_, e⟩)
      · exact e
      · have := inv.a4 v; omega
    · intro e; exact .inl ⟨e, rfl⟩
  refine ⟨fun k hk => ?_, fun k k' hk hk' he => ?_, fun k hk => ?_, fun k j hk hj => ?_, fun k i j hk hi hj he => ?_, fun k v hk hv => ?_, fun v v' hne hl he => ?_⟩
  · show 1 ≤ up lk K (s.nl + 1) k ∧ up lk K (s.nl + 1) k ≤ s.nl + 1
    by_cases e : k = K
    · subst e; rw [up_same]; omega
    · rw [up_other _ _ e]; have := h.k1 k (by omega); omega
  · by_cases e : k = K <;> by_cases e' : k' = K
    · omega
    · subst e; rw [up_same, up_other _ _ e'] at he; have := (h.k1 k' (by omega)).2; omega
    · subst e'; rw [up_same, up_other _ _ e] at he; have := (h.k1 k (by omega)).2; omega
    · rw [up_other _ _ e, up_other _ _ e'] at he; exact h.k2 k k' (by omega) (by omega) he
  · by_cases e : k = K
    · subst e; rw [up_same]; exact h1
    · rw [up_other _ _ e]; exact h.k3 k (by omega)
  · by_cases e : k = K
    · subst e
      rw [up_same] at hj ⊢
      simp only [if_true]
      exact (lnew _).2 ((s.hang_iff _).2 ⟨_, Nat.le_add_right _ _, by omega, rfl⟩)
    · rw [up_other _ _ e] at hj ⊢
      simp only [if_neg e]
      exact (lab _ _ (h.k1 k (by omega)).1 (h.k1 k (by omega)).2).2 (h.k4 k j (by omega) hj)
  · by_cases e : k = K
    · subst e
      rw [up_same] at hi hj
      simp only [if_true] at he
      have := inv.st_inj (by omega) (by omega) he
      omega
    · rw [up_other _ _ e] at hi hj
      simp only [if_neg e] at he
      exact h.k5 k i j (by omega) hi hj he
  · by_cases e : k = K
    · subst e
      rw [up_same] at hv ⊢
      obtain ⟨i, i1, i2, i3⟩ := (s.hang_iff v).1 ((lnew v).1 hv)
      exact ⟨i - s.sp (s.m - 1), by omega, by simp only [if_true]; rw [← i3]; congr 1; omega⟩
    · rw [up_other _ _ e] at hv ⊢
      simp only [if_neg e]
      exact h.k6 k v (by omega) ((lab _ _ (h.k1 k (by omega)).1 (h.k1 k (by omega)).2).1 hv)
  · have hv1 : 1 ≤ s.out.lab v := by omega
    rcases (out_lab inv hv1 (v := v)).1 rfl with ⟨a1, a2⟩ | ⟨a1, a2⟩
    · exact ⟨K, by omega, by rw [up_same, a2]⟩
    · rcases (out_lab inv hv1 (v := v')).1 he.symm with ⟨b1, b2⟩ | ⟨b1, b2⟩
      · have := inv.a4 v; omega
      · obtain ⟨k, k1, k2⟩ := h.k7 v v' hne (by omega) (a2.trans b2.symm)
        exact ⟨k, by omega, by rw [up_other _ _ (by omega)]; exact k2.trans a2⟩
end

/-- How many edges are still to be looked at. -/
def dgap (P : PS) (sl : Nat → Nat) (sc : Nat → Nat) : Nat → Nat
  | 0 => 0
  | j + 1 => dgap P sl sc j + (P.on (sl j) - sc (sl j))
theorem dgap_le {P : PS} {sl sc : Nat → Nat} {j : Nat} : ∀ n, n ≤ j → (∀ i, i < n → sl i ≠ sl j) → dgap P sl (up sc (sl j) (sc (sl j) + 1)) n = dgap P sl sc n
  | 0, _, _ => rfl
  | n + 1, h, hi => by
    show dgap P sl _ n + (P.on (sl n) - up sc (sl j) (sc (sl j) + 1) (sl n)) = dgap P sl sc n + (P.on (sl n) - sc (sl n))
    rw [dgap_le n (by omega) (fun i hi' => hi i (by omega)), up_other _ _ (hi n (by omega))]
theorem dgap_up {P : PS} {sl sc : Nat → Nat} {N : Nat} (inj : ∀ i j, i < N → j < N → sl i = sl j → i = j) {j : Nat} (hjN : j < N) (hs : sc (sl j) < P.on (sl j)) : ∀ n, j < n → n ≤ N → dgap P sl (up sc (sl j) (sc (sl j) + 1)) n + 1 = dgap P sl sc n
  | 0, h, _ => by omega
  | n + 1, h, hN => by
    show dgap P sl _ n + (P.on (sl n) - up sc (sl j) (sc (sl j) + 1) (sl n)) + 1 = dgap P sl sc n + (P.on (sl n) - sc (sl n))
    by_cases e : j = n
    · subst e; rw [dgap_le j (Nat.le_refl _) (fun i hi e => by have := inj i j (by omega) hjN e; omega), up_same]; omega
    · have := dgap_up inj hjN hs n (by omega) (by omega)
      rw [up_other _ _ (fun e' => e (inj n j (by omega) hjN e').symm)]; omega
theorem dgap_bound {P : PS} {sl : Nat → Nat} {N : Nat} (hd : ∀ j, j < N → P.on (sl j) ≤ 4096) (sc : Nat → Nat) : ∀ n, n ≤ N → dgap P sl sc n ≤ 4096 * n
  | 0, _ => Nat.le_refl _
  | n + 1, h => by
    have h1 := dgap_bound hd sc n (by omega)
    have h2 := hd n (by omega)
    show dgap P sl sc n + (P.on (sl n) - sc (sl n)) ≤ _
    omega
end Go.Proofs.Qxb6602148a
