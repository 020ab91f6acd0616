/-
  PLAIN: what 'divide' leaves, said of the state it was handed.
-/
import Derived.Test.Qxb6602148aDr
attribute [local go_sem] Go.Proofs.Qxb6602148a.yTo Go.Proofs.Qxb6602148a.yUpon
namespace Go.Proofs.Qxb6602148a
set_option linter.unusedVariables false
set_option linter.unusedSimpArgs false

/-- P: the state handed; its component c held the slots sl 0 .. sl (n-1). -/
structure DF (P : PS) (c n : Nat) (sl : Nat → Nat) (L : LS) (PF : PS) : Prop where
  nE : PF.nE = P.nE
  nS : PF.nS = P.nS + (L.t - P.nF)
  nC : PF.nC = P.nC + (L.nb - P.nU)
  kb0 : L.kb 0 = 0
  kbm : ∀ β, β < L.nb → L.kb β ≤ L.kb (β + 1)
  kbt : L.kb L.nb = L.t
  nui : ∀ β k k', β < L.nb → L.kb β ≤ k → k < L.kb (β + 1) → L.kb β ≤ k' → k' < L.kb (β + 1) → L.nu k = L.nu k' → k = k'
  sold : ∀ j, j < n → PF.comp (sl j) = -1 ∧ PF.on (sl j) = 0
  snew : ∀ k, k < L.t → PF.node (P.ns k) = P.node (L.nu k)
  scmp : ∀ β k, β < L.nb → L.kb β ≤ k → k < L.kb (β + 1) → PF.comp (P.ns k) = P.cs β
  out1 : ∀ k j, k < L.t → j < PF.on (P.ns k) → ∃ e, PF.out (P.ns k) j = (e : Nat) ∧ L.blk e ≠ 0 ∧ PF.fr e = P.ns k
  out2 : ∀ k e, k < L.t → L.blk e ≠ 0 → PF.fr e = P.ns k → ∃ j, j < PF.on (P.ns k) ∧ PF.out (P.ns k) j = (e : Nat)
  out3 : ∀ k i j, k < L.t → i < j → j < PF.on (P.ns k) → PF.out (P.ns k) i < PF.out (P.ns k) j
  soth : ∀ s, (∀ j, j < n → s ≠ sl j) → (∀ k, k < L.t → s ≠ P.ns k) → PF.node s = P.node s ∧ PF.comp s = P.comp s ∧ PF.on s = P.on s ∧ PF.out s = P.out s
  cc : PF.mn c = 0
  cmn : ∀ β, β < L.nb → PF.mn (P.cs β) = L.kb (β + 1) - L.kb β
  cmem : ∀ β j, β < L.nb → j < L.kb (β + 1) - L.kb β → PF.mem (P.cs β) j = P.ns (L.kb β + j)
  cedg : ∀ β, β < L.nb → PF.edg (P.cs β) = (cnt (fun e => L.blk e == β + 1) P.nE : Nat)
  coth : ∀ c', c' ≠ c → (∀ β, β < L.nb → c' ≠ P.cs β) → PF.mn c' = P.mn c' ∧ PF.mem c' = P.mem c' ∧ PF.edg c' = P.edg c'
  emov : ∀ e, L.blk e ≠ 0 → L.blk e ≤ L.nb ∧ e < P.nE ∧ ∃ k k', L.kb (L.blk e - 1) ≤ k ∧ k < L.kb (L.blk e) ∧ L.kb (L.blk e - 1) ≤ k' ∧ k' < L.kb (L.blk e) ∧ PF.fr e = P.ns k ∧ PF.to e = P.ns k' ∧ P.fr e = L.nu k ∧ P.to e = L.nu k'
  eout : ∀ i j e, i < n → j < P.on (sl i) → P.out (sl i) j = ((e : Nat) : Int) → L.blk e = 0 → PF.fr e = -1 ∧ PF.to e = -1
  eoth : ∀ e, (∀ i j, i < n → j < P.on (sl i) → P.out (sl i) j ≠ ((e : Nat) : Int)) → PF.fr e = P.fr e ∧ PF.to e = P.to e
  ein : ∀ e, L.blk e ≠ 0 → ∃ i j, i < n ∧ j < P.on (sl i) ∧ P.out (sl i) j = ((e : Nat) : Int)
  tou : ∀ t, t < L.t → ∃ e, L.blk e ≠ 0 ∧ (PF.fr e = ((P.ns t : Nat) : Int) ∨ PF.to e = ((P.ns t : Nat) : Int))
  full : ∀ β, 1 ≤ β → β ≤ L.nb → ∃ e, L.blk e = β
  nF : PF.nF = P.nF - L.t + n
  fr1 : ∀ k, k < P.nF - L.t → PF.free k = P.free k
  fr2 : ∀ k, k < n → PF.free (P.nF - L.t + k) = ((sl k : Nat) : Int)
  nU : PF.nU = P.nU - L.nb + 1
  un1 : ∀ k, k < P.nU - L.nb → PF.unused k = P.unused k
  un2 : PF.unused (P.nU - L.nb) = (c : Int)
  idx : ∀ v, v < PF.nS → PF.idx v = 0
  nK : PF.nK = 0
  nQ : PF.nQ = 0
  mks : 0 ≤ PF.marks ∧ PF.marks ≤ P.marks + (L.nb : Int)
  mark : ∀ s, s < PF.nS → PF.mark s ≤ PF.marks
  nbE : L.nb ≤ P.nE
  tE : L.t ≤ 2 * P.nE

/-- The slots of PF. -/
theorem DF.range {P : PS} {c n : Nat} {sl : Nat → Nat} {L : LS} {PF : PS} (h : DF P c n sl L PF) {s : Nat} (hs : s < PF.nS) : s < P.nS ∨ ∃ k, k < L.t ∧ s = P.ns k := by
  rcases Nat.lt_or_ge s P.nS with h1 | h1
  · exact .inl h1
  · right
    rw [h.nS] at hs
    refine ⟨P.nF + (s - P.nS), by omega, ?_⟩
    unfold PS.ns
    rw [if_neg (by omega)]; omega
theorem DF.crange {P : PS} {c n : Nat} {sl : Nat → Nat} {L : LS} {PF : PS} (h : DF P c n sl L PF) {s : Nat} (hs : s < PF.nC) : s < P.nC ∨ ∃ k, k < L.nb ∧ s = P.cs k := by
  rcases Nat.lt_or_ge s P.nC with h1 | h1
  · exact .inl h1
  · right
    rw [h.nC] at hs
    refine ⟨P.nU + (s - P.nC), by omega, ?_⟩
    unfold PS.cs
    rw [if_neg (by omega)]; omega
theorem DF.ns_lt {P : PS} {c n : Nat} {sl : Nat → Nat} {L : LS} {PF : PS} (h : DF P c n sl L PF) (sp : Spare P) {k : Nat} (hk : k < L.t) : P.ns k < PF.nS := by
  rw [h.nS]
  unfold PS.ns
  by_cases e : k < P.nF
  · rw [if_pos e]
    have := sp.f1 (P.nF - 1 - k) (by omega)
    omega
  · rw [if_neg e]; omega
theorem DF.cs_lt {P : PS} {c n : Nat} {sl : Nat → Nat} {L : LS} {PF : PS} (h : DF P c n sl L PF) (sp : Spare P) {k : Nat} (hk : k < L.nb) : P.cs k < PF.nC := by
  rw [h.nC]
  unfold PS.cs
  by_cases e : k < P.nU
  · rw [if_pos e]
    have := sp.u1 (P.nU - 1 - k) (by omega)
    omega
  · rw [if_neg e]; omega
theorem DF.kle {P : PS} {c n : Nat} {sl : Nat → Nat} {L : LS} {PF : PS} (h : DF P c n sl L PF) : ∀ β, β ≤ L.nb → L.kb β ≤ L.t := by
  have : ∀ m β, β + m = L.nb → L.kb β ≤ L.t := by
    intro m
    induction m with
    | zero => intro β hβ; rw [show β = L.nb by omega, h.kbt]; exact Nat.le_refl _
    | succ m ih => intro β hβ; exact Nat.le_trans (h.kbm β (by omega)) (ih (β + 1) (by omega))
  exact fun β hβ => this (L.nb - β) β (by omega)
/-- Which component a new slot is in. -/
theorem DF.kfind {P : PS} {c n : Nat} {sl : Nat → Nat} {L : LS} {PF : PS} (h : DF P c n sl L PF) {k : Nat} (hk : k < L.t) : ∃ β, β < L.nb ∧ L.kb β ≤ k ∧ k < L.kb (β + 1) := by
  have : ∀ m, m ≤ L.nb → k < L.kb m → ∃ β, β < m ∧ L.kb β ≤ k ∧ k < L.kb (β + 1) := by
    intro m
    induction m with
    | zero => intro _ h1; rw [h.kb0] at h1; omega
    | succ m ih =>
      intro hm h1
      rcases Nat.lt_or_ge k (L.kb m) with h2 | h2
      · obtain ⟨β, b1, b2⟩ := ih (by omega) h2
        exact ⟨β, by omega, b2⟩
      · exact ⟨m, by omega, h2, h1⟩
  exact this L.nb (Nat.le_refl _) (by rw [h.kbt]; exact hk)
theorem DGo.sl_ns {P : PS} {c n : Nat} {sl : Nat → Nat} (hgo : DGo P c n sl) {j : Nat} (hj : j < n) (k : Nat) : sl j ≠ P.ns k := by
  have hlt := hgo.lt j hj
  unfold PS.ns
  by_cases e : k < P.nF
  · rw [if_pos e]
    have h1 := hgo.sp.f1 (P.nF - 1 - k) (by omega)
    have h2 := hgo.free j (P.nF - 1 - k) hj (by omega)
    omega
  · rw [if_neg e]; omega
theorem DGo.c_cs {P : PS} {c n : Nat} {sl : Nat → Nat} (hgo : DGo P c n sl) (β : Nat) : c ≠ P.cs β := by
  have hlt := hgo.cC
  unfold PS.cs
  by_cases e : β < P.nU
  · rw [if_pos e]
    have h1 := hgo.sp.u1 (P.nU - 1 - β) (by omega)
    have h2 := hgo.unus (P.nU - 1 - β) (by omega)
    omega
  · rw [if_neg e]; omega

/-- The search's outcome: labels tell the strongly connected components; the lists are those of two slots or more. -/
structure DSr (P : PS) (n : Nat) (sl : Nat → Nat) (lab : Nat → Nat) (K : Nat) (ln : Nat → Nat) (ls : Nat → Nat → Nat) (lk : Nat → Nat) (L : LS) : Prop where
  l0 : ∀ j, j < n → lab (sl j) ≠ 0
  l1 : ∀ v, lab v ≠ 0 → ∃ j, j < n ∧ sl j = v
  l2 : ∀ v v', lab v ≠ 0 → lab v' ≠ 0 → (lab v = lab v' ↔ Rch (dg P n sl).R v v' ∧ Rch (dg P n sl).R v' v)
  k2 : ∀ k k', k < K → k' < K → lk k = lk k' → k = k'
  k4 : ∀ k j, k < K → j < ln k → lab (ls k j) = lk k
  k5 : ∀ k i j, k < K → i < ln k → j < ln k → ls k i = ls k j → i = j
  k6 : ∀ k v, k < K → lab v = lk k → ∃ j, j < ln k ∧ ls k j = v
  k7 : ∀ v v', v ≠ v' → lab v ≠ 0 → lab v = lab v' → ∃ k, k < K ∧ lk k = lab v
  k8 : ∀ k, k < K → lk k ≠ 0
  conn : ∀ k a b, k < K → a < ln k → b < ln k → Rch (fun a b => ∃ e, II P (ln k) (ls k) a e b) a b
  blk : ∀ e, L.blk e ≠ 0 ↔ ∃ k' a b, k' < K ∧ II P (ln k') (ls k') a e b
  eqv : ∀ k' e e', k' < K → (∃ a b, II P (ln k') (ls k') a e b) → (∃ a b, II P (ln k') (ls k') a e' b) → (L.blk e = L.blk e' ↔ EqI (II P (ln k') (ls k')) e e')
  dif : ∀ k' k'' e e', k' < K → k'' < K → k' ≠ k'' → (∃ a b, II P (ln k') (ls k') a e b) → (∃ a b, II P (ln k'') (ls k'') a e' b) → L.blk e ≠ L.blk e'

theorem DEnd.facts {x : DX} {PF : PS} (hgo : DGo x.P x.c x.n x.sl) (h : DEnd x PF) : ∃ lab K ln ls lk L, DSr x.P x.n x.sl lab K ln ls lk L ∧ DF x.P x.c x.n x.sl L PF := by
  obtain ⟨s, K, ln, ls, lk, PA, PB, L, P6, inv, hP, hm, dr, dl, dv, dc, rfl⟩ := h.ex
  obtain ⟨f, t, o, nn, r, e0⟩ := dc.eq
  obtain ⟨kE, kfr, kto, kS, kon, kout, kC⟩ := dr.keeps
  have lay := dv.lay
  have hns : ∀ m, PA.ns m = x.P.ns m := dr.ns
  obtain ⟨pcomp, pidx, plow, pnK, pstk, pnQ, pcq, eA⟩ := dr.eq
  have hcs : ∀ m, PA.cs m = x.P.cs m := by intro m; rw [eA]; rfl
  have kF : PA.nF = x.P.nF := by rw [eA]
  have kU : PA.nU = x.P.nU := by rw [eA]
  have kfree : PA.free = x.P.free := by rw [eA]
  have kunu : PA.unused = x.P.unused := by rw [eA]
  have knode : PA.node = x.P.node := by rw [eA]
  have kmem : PA.mem = x.P.mem := by rw [eA]
  have kedg : PA.edg = x.P.edg := by rw [eA]
  have kmn : PA.mn = upn x.P.mn x.c 0 := by rw [eA]
  have kmks : PA.marks = x.P.marks := by rw [eA]
  have hI : ∀ k a e b, II PA (ln k) (ls k) a e b ↔ II x.P (ln k) (ls k) a e b := by
    intro k a e b
    unfold II Inn
    rw [kon, kout, kto]
  have hIf : ∀ k, II PA (ln k) (ls k) = II x.P (ln k) (ls k) := by
    intro k; funext a e b; exact propext (hI k a e b)
  have l0 : ∀ j, j < x.n → s.lab (x.sl j) ≠ 0 := fun j hj => done_lab inv hP hm hj
  have sh : s.h = 0 := inv.p4 hm
  -- the fields of PF
  have gcomp : (P6.giveC (x.c : Int)).comp = PB.comp := by rw [e0]; rfl
  have gnode : (P6.giveC (x.c : Int)).node = PB.node := by rw [e0]; rfl
  have gout : (P6.giveC (x.c : Int)).out = PB.out := by rw [e0]; rfl
  have gmn : (P6.giveC (x.c : Int)).mn = PB.mn := by rw [e0]; rfl
  have gmem : (P6.giveC (x.c : Int)).mem = PB.mem := by rw [e0]; rfl
  have gedg : (P6.giveC (x.c : Int)).edg = PB.edg := by rw [e0]; rfl
  have gidx : (P6.giveC (x.c : Int)).idx = PB.idx := by rw [e0]; rfl
  have gmark : (P6.giveC (x.c : Int)).mark = PB.mark := by rw [e0]; rfl
  have gmarks : (P6.giveC (x.c : Int)).marks = PB.marks := by rw [e0]; rfl
  have gnE : (P6.giveC (x.c : Int)).nE = PB.nE := by rw [e0]; rfl
  have gnS : (P6.giveC (x.c : Int)).nS = PB.nS := by rw [e0]; rfl
  have gnC : (P6.giveC (x.c : Int)).nC = PB.nC := by rw [e0]; rfl
  have gnK : (P6.giveC (x.c : Int)).nK = PB.nK := by rw [e0]; rfl
  have gnQ : (P6.giveC (x.c : Int)).nQ = PB.nQ := by rw [e0]; rfl
  have p6U : P6.nU = PB.nU := by rw [e0]; rfl
  have p6u : P6.unused = PB.unused := by rw [e0]; rfl
  have slns : ∀ j, j < x.n → ∀ k, x.sl j ≠ PA.ns k := fun j hj k => by rw [hns]; exact hgo.sl_ns hj k
  have ccs : ∀ β, x.c ≠ PA.cs β := fun β => by rw [hcs]; exact hgo.c_cs β
  have nsl : ∀ k, ∀ i', i' < x.n → x.P.ns k ≠ x.sl i' := fun k i' hi' e => hgo.sl_ns hi' k e.symm
  -- an edge that is moved is one of c's
  have ein : ∀ e, L.blk e ≠ 0 → ∃ i j, i < x.n ∧ j < x.P.on (x.sl i) ∧ x.P.out (x.sl i) j = ((e : Nat) : Int) := by
    intro e he
    obtain ⟨k, a, b, hk, hII⟩ := (dv.blk e).1 he
    have one : ∀ a b, Inn PA (ln k) (ls k) a e b → ∃ i j, i < x.n ∧ j < x.P.on (x.sl i) ∧ x.P.out (x.sl i) j = ((e : Nat) : Int) := by
      rintro a b ⟨h1, h2, ⟨j, hj, hj2⟩, _⟩
      have hl := hP.li.k4 k a hk h1
      have := (hP.li.k1 k hk).1
      obtain ⟨i, i1, i2⟩ := inv.a1 (ls k a) (by omega)
      exact ⟨i, j, i1, by rw [i2, ← kon]; exact hj, by rw [i2, ← kout]; exact hj2⟩
    rcases hII with h1 | h1
    · exact one a b h1
    · exact one b a h1
  refine ⟨s.lab, K, ln, ls, lk, L, ⟨l0, inv.a1, inv.a3, hP.li.k2, hP.li.k4, hP.li.k5, hP.li.k6, hP.li.k7, fun k hk => by have := (hP.li.k1 k hk).1; omega, fun k a b hk ha hb => by rw [← hIf]; exact dl.conn k a b hk ha hb, fun e => ?_, fun k' e e' hk' => ?_, fun k' k'' e e' hk' hk'' hne => ?_⟩, ?_⟩
  · rw [dv.blk e]
    constructor
    · rintro ⟨k', a, b, h1, h2⟩; exact ⟨k', a, b, h1, (hI _ _ _ _).1 h2⟩
    · rintro ⟨k', a, b, h1, h2⟩; exact ⟨k', a, b, h1, (hI _ _ _ _).2 h2⟩
  · rw [← hIf]; exact dv.eqv k' e e' hk'
  · rw [← hIf, ← hIf]; exact dv.dif k' k'' e e' hk' hk'' hne
  · refine
    { nE := by rw [gnE, lay.nE, kE]
      nS := by rw [gnS, lay.nS, kS, kF]
      nC := by rw [gnC, lay.nC, kC, kU]
      kb0 := lay.kb0
      kbm := lay.kbm
      kbt := lay.kbt
      nui := lay.nuinj
      sold := fun j hj => ?_
      snew := fun k hk => ?_
      scmp := fun β k h1 h2 h3 => ?_
      out1 := fun k j hk hj => ?_
      out2 := fun k e hk he hf => ?_
      out3 := fun k i j hk hij hj => ?_
      soth := fun s' h1 h2 => ?_
      cc := ?_
      cmn := fun β hβ => ?_
      cmem := fun β j hβ hj => ?_
      cedg := fun β hβ => ?_
      coth := fun c' hc hn => ?_
      emov := fun e he => ?_
      eout := fun i j e hi hj he hb => ?_
      eoth := fun e hn => ?_
      ein := ein
      tou := fun t' ht => ?_
      full := dv.full
      nF := ?_
      fr1 := fun k hk => ?_
      fr2 := fun k hk => ?_
      nU := ?_
      un1 := fun k hk => ?_
      un2 := ?_
      idx := fun v hv => ?_
      nK := by rw [gnK, lay.nK, dr.nK, sh]
      nQ := by rw [gnQ, lay.nQ, dr.nQ, hm]
      mks := by rw [gmarks, ← kmks]; exact dv.mks
      mark := fun s' hs => by rw [gmark, gmarks]; exact lay.mark s' (by rw [← gnS]; exact hs)
      nbE := Nat.le_trans dv.nbb (by rw [kE]; exact cnt_le _ _)
      tE := Nat.le_trans dv.tb (by rw [kE]; exact Nat.mul_le_mul_left _ (cnt_le _ _)) }
    · refine ⟨?_, dc.o1 j hj⟩
      rw [gcomp, (lay.olds (x.sl j) (fun k _ => slns j hj k)).2.1, dr.comp, if_neg (l0 j hj)]
    · rw [gnode, ← hns, lay.node k hk, knode]
    · rw [gcomp, ← hns, lay.comp β k h1 h2 h3, hcs]
    · have ho : P6.on (x.P.ns k) = PB.on (x.P.ns k) := dc.o2 _ (fun i' hi' => nsl k i' hi')
      have hj : j < P6.on (x.P.ns k) := hj
      rw [ho, ← hns] at hj
      obtain ⟨e, e1, e2, e3, e4⟩ := lay.out1 k j hk hj
      refine ⟨e, by rw [gout, ← hns]; exact e1, e2, ?_⟩
      show P6.fr e = _
      rw [(dc.f1 e e2).1, ← hns]; exact e4
    · have ho : P6.on (x.P.ns k) = PB.on (x.P.ns k) := dc.o2 _ (fun i' hi' => nsl k i' hi')
      have hf : P6.fr e = _ := hf
      rw [(dc.f1 e he).1, ← hns] at hf
      obtain ⟨j, j1, j2⟩ := lay.out2 k e hk he ((dv.dn e).2 he) hf
      refine ⟨j, ?_, by rw [gout, ← hns]; exact j2⟩
      show j < P6.on _
      rw [ho, ← hns]; exact j1
    · have ho : P6.on (x.P.ns k) = PB.on (x.P.ns k) := dc.o2 _ (fun i' hi' => nsl k i' hi')
      have hj : j < P6.on (x.P.ns k) := hj
      rw [ho, ← hns] at hj
      rw [gout, ← hns]; exact lay.out3 k i j hk hij hj
    · obtain ⟨q1, q2, q3, q4, q5⟩ := lay.olds s' (fun k hk => by rw [hns]; exact h2 k hk)
      have ho : P6.on s' = PB.on s' := dc.o2 s' (fun i' hi' => h1 i' hi')
      have hl : s.lab s' = 0 := by
        by_cases hl : s.lab s' = 0
        · exact hl
        · obtain ⟨j, j1, j2⟩ := inv.a1 s' hl
          exact absurd j2.symm (h1 j j1)
      refine ⟨by rw [gnode, q1, knode], by rw [gcomp, q2, dr.comp, if_pos hl], ?_, by rw [gout, q5, kout]⟩
      show P6.on s' = _
      rw [ho, q4, kon]
    · rw [gmn, (lay.oldc x.c (fun β _ => ccs β)).1, kmn, upn_same]
    · rw [gmn, ← hcs]; exact lay.mn β hβ
    · rw [gmem, ← hcs, ← hns]; exact lay.mem β j hβ hj
    · rw [gedg, ← hcs, ← kE]; exact lay.edg β hβ
    · obtain ⟨q1, q2, q3⟩ := lay.oldc c' (fun β hβ => by rw [hcs]; exact hn β hβ)
      exact ⟨by rw [gmn, q1, kmn, upn_other _ _ hc], by rw [gmem, q2, kmem], by rw [gedg, q3, kedg]⟩
    · obtain ⟨m1, m2, k, k', m3, m4, m5, m6, m7, m8, m9, m10⟩ := lay.move e he
      refine ⟨m1, by rw [← kE]; exact m2, k, k', m3, m4, m5, m6, ?_, ?_, by rw [← kfr]; exact m9, by rw [← kto]; exact m10⟩
      · show P6.fr e = _
        rw [(dc.f1 e he).1, ← hns]; exact m7
      · show P6.to e = _
        rw [(dc.f1 e he).2, ← hns]; exact m8
    · exact dc.f2 i j e (.inl hi) hi hj he hb
    · have h1 := dc.f3 e (fun i' j' _ hi' hj' => hn i' j' hi' hj')
      have hb : L.blk e = 0 := by
        by_cases hb : L.blk e = 0
        · exact hb
        · obtain ⟨i, j, i1, j1, j2⟩ := ein e hb
          exact absurd j2 (hn i j i1 j1)
      obtain ⟨q1, q2⟩ := lay.keep e hb
      exact ⟨by show P6.fr e = _; rw [h1.1, q1, kfr], by show P6.to e = _; rw [h1.2, q2, kto]⟩
    · obtain ⟨e, e1, e2⟩ := dv.tou t' ht
      refine ⟨e, e1, ?_⟩
      show P6.fr e = _ ∨ P6.to e = _
      rw [(dc.f1 e e1).1, (dc.f1 e e1).2, ← hns]; exact e2
    · show P6.nF = _
      rw [dc.nF, lay.nF, kF]
    · show P6.free k = _
      rw [dc.r1 k (by rw [lay.nF, kF]; exact hk), lay.free, kfree]
    · show P6.free _ = _
      have := dc.r2 k hk
      rw [lay.nF, kF] at this
      exact this
    · show P6.nU + 1 = _
      rw [p6U, lay.nU, kU]
    · show upd P6.unused P6.nU _ k = _
      rw [p6U, lay.nU, kU, upd_other _ _ (by omega), p6u, lay.unused, kunu]
    · show upd P6.unused P6.nU _ _ = _
      rw [p6U, lay.nU, kU, upd_same]
    · rw [gidx]
      by_cases hex : ∃ k, k < L.t ∧ v = PA.ns k
      · obtain ⟨k, k1, rfl⟩ := hex
        exact lay.idx k k1
      · have hv2 : v < x.P.nS := by
          rw [gnS, lay.nS, kS, kF] at hv
          rcases Nat.lt_or_ge v x.P.nS with h1 | h1
          · exact h1
          · exfalso
            refine hex ⟨x.P.nF + (v - x.P.nS), by omega, ?_⟩
            rw [hns]
            unfold PS.ns
            rw [if_neg (by omega)]; omega
        rw [(lay.olds v (fun k hk e => hex ⟨k, hk, e⟩)).2.2.1, dr.idx v hv2]
        have : s.idx v = 0 := by
          by_cases h0 : s.idx v = 0
          · exact h0
          · obtain ⟨i, hi, _⟩ := inv.s3 v h0
            omega
        rw [this]; rfl
end Go.Proofs.Qxb6602148a
