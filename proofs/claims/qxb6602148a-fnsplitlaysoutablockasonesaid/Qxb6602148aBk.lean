/-
  PLAIN: a component of a partition that meets the model: it is strongly connected, and no node parts it, inside itself; 'divide' of it.
-/
import Derived.Test.Qxb6602148aMf
import Derived.Test.Qxb6602148aPtb
attribute [local go_sem] Go.Proofs.Qxb6602148a.yTo Go.Proofs.Qxb6602148a.yUpon
namespace Go.Proofs.Qxb6602148a
set_option linter.unusedVariables false
set_option linter.unusedSimpArgs false

/-- Edge f, on a cycle, leads between a and b. -/
def GR.I (G : GR) (R : Nat → Nat → Bool) (a f b : Nat) : Prop := f < G.E ∧ G.ocb R f = true ∧ ((G.sr f = a ∧ G.ds f = b) ∨ (G.sr f = b ∧ G.ds f = a))
section
variable {G : GR} {R : Nat → Nat → Bool}
theorem GR.I_symm (a f b : Nat) (h : G.I R a f b) : G.I R b f a := ⟨h.1, h.2.1, h.2.2.symm⟩
theorem GR.I_two (a e b a' b' : Nat) (h : G.I R a e b) (h' : G.I R a' e b') : (a' = a ∧ b' = b) ∨ (a' = b ∧ b' = a) := by
  obtain ⟨_, _, h1⟩ := h
  obtain ⟨_, _, h2⟩ := h'
  rcases h1 with ⟨e1, e2⟩ | ⟨e1, e2⟩ <;> rcases h2 with ⟨e3, e4⟩ | ⟨e3, e4⟩ <;> omega
theorem GR.I_axe (x a b : Nat) : Ad (G.I R) x a b ↔ G.AXe R x G.E a b := by
  constructor
  · rintro ⟨h1, h2, f, f1, f2, f3⟩
    refine ⟨f, f1, f2, ?_, ?_, f3⟩
    · rcases f3 with ⟨e1, e2⟩ | ⟨e1, e2⟩ <;> omega
    · rcases f3 with ⟨e1, e2⟩ | ⟨e1, e2⟩ <;> omega
  · rintro ⟨f, f1, f2, f3, f4, f5⟩
    refine ⟨?_, ?_, f, f1, f2, f5⟩
    · rcases f5 with ⟨e1, e2⟩ | ⟨e1, e2⟩ <;> omega
    · rcases f5 with ⟨e1, e2⟩ | ⟨e1, e2⟩ <;> omega
theorem RS.sc_I (h : RS G G.n R) (ok : G.Ok) {a f b : Nat} (hi : G.I R a f b) : G.sc a b := by
  obtain ⟨f1, f2, f3⟩ := hi
  have h1 := ((h.ocb_iff ok f1).1 f2).2
  have h2 : Rch G.adj (G.sr f) (G.ds f) := Rch.one ⟨f, f1, rfl, rfl⟩
  rcases f3 with ⟨rfl, rfl⟩ | ⟨rfl, rfl⟩
  · exact ⟨h2, h1⟩
  · exact ⟨h1, h2⟩
theorem RS.en_I (h : RS G G.n R) (ok : G.Ok) {e : Nat} (he : e < G.E) (ho : G.ocb R e = true) (x : Nat) : (∃ b, G.I R (G.en x e) e b) ∧ G.en x e ≠ x := by
  have hne := ((h.ocb_iff ok he).1 ho).1
  unfold GR.en
  by_cases hx : G.sr e = x
  · rw [if_pos hx]
    exact ⟨⟨G.sr e, he, ho, .inr ⟨rfl, rfl⟩⟩, fun e' => hne (by rw [hx, e'])⟩
  · rw [if_neg hx]
    exact ⟨⟨G.ds e, he, ho, .inl ⟨rfl, rfl⟩⟩, hx⟩
theorem RS.eqN_of_rl (h : RS G G.n R) (ok : G.Ok) {e e' : Nat} (he : e < G.E) (he' : e' < G.E) (ho : G.ocb R e = true) (ho' : G.ocb R e' = true) (hr : Rl G R G.n e e') : EqN (G.I R) G.n e e' := by
  intro x a b a' b' hx h1 h2 n1 n2
  obtain ⟨⟨c, hc⟩, nc⟩ := h.en_I ok he ho x
  obtain ⟨⟨c', hc'⟩, nc'⟩ := h.en_I ok he' ho' x
  have r1 : Rch (Ad (G.I R) x) a (G.en x e) := ends_ad GR.I_two h1 hc n1 nc
  have r2 : Rch (Ad (G.I R) x) a' (G.en x e') := ends_ad GR.I_two h2 hc' n2 nc'
  have r3 : Rch (Ad (G.I R) x) (G.en x e) (G.en x e') := (hr.2 x hx).mono (fun a b => (GR.I_axe x a b).2)
  exact (r1.trans r3).trans (ad_symm GR.I_symm r2)
theorem RS.rl_of_eqN (h : RS G G.n R) (ok : G.Ok) {e e' : Nat} (he : e < G.E) (he' : e' < G.E) (ho : G.ocb R e = true) (ho' : G.ocb R e' = true) (hq : EqN (G.I R) G.n e e') : Rl G R G.n e e' := by
  refine ⟨?_, fun x hx => ?_⟩
  · obtain ⟨⟨c', hc'⟩, nc'⟩ := h.en_I ok he' ho' (G.sr e)
    have hne := ((h.ocb_iff ok he).1 ho).1
    have hd : G.I R (G.ds e) e (G.sr e) := ⟨he, ho, .inr ⟨rfl, rfl⟩⟩
    have hr := hq (G.sr e) (G.ds e) (G.sr e) (G.en (G.sr e) e') c' (G.sr_lt he) hd hc' (fun e1 => hne e1.symm) nc'
    have s1 : G.sc (G.ds e) (G.en (G.sr e) e') := hr (fun y => G.sc (G.ds e) y) (G.sc_refl _) (fun u v hu r => GR.sc_trans hu (by
      obtain ⟨_, _, f, hf⟩ := r
      exact h.sc_I ok hf))
    have s2 : G.sc (G.sr e) (G.ds e) := GR.sc_symm (h.sc_I ok hd)
    have s3 : G.sc (G.en (G.sr e) e') (G.sr e') := by
      obtain ⟨_, _, hc⟩ := id hc'
      have hh := h.sc_I ok hc'
      rcases hc with ⟨e1, e2⟩ | ⟨e1, e2⟩
      · rw [e1]; exact G.sc_refl _
      · rw [e1]; exact hh
    exact GR.sc_trans (GR.sc_trans s2 s1) s3
  · obtain ⟨⟨c, hc⟩, nc⟩ := h.en_I ok he ho x
    obtain ⟨⟨c', hc'⟩, nc'⟩ := h.en_I ok he' ho' x
    exact (hq x _ c _ c' hx hc hc' nc nc').mono (fun a b => (GR.I_axe x a b).1)
end

/-- What a partition is between calls. -/
structure Calm (P : PS) : Prop where
  sp : Spare P
  fr0 : ∀ i, i < P.nF → P.comp (P.free i).toNat = -1
  m0 : ∀ j, j < P.nU → P.mn (P.unused j).toNat = 0
  idx : ∀ v, v < P.nS → P.idx v = 0
  nK : P.nK = 0
  nQ : P.nQ = 0
  mks : 0 ≤ P.marks ∧ P.marks ≤ 400000
  mark : ∀ s, s < P.nS → P.mark s ≤ P.marks
  nE : P.nE ≤ 4096
  nS : P.nS ≤ 50000
  nC : P.nC ≤ 50000

theorem NP.calm {G : GR} {P PF : PS} {L : LS} (h : NP G G.n 0 G.n P) (ok : G.Ok) (hf : DF P 0 G.n (fun s => s) L PF) : Calm PF := by
  have hn := ok.n
  have hE := ok.E
  have nF : PF.nF = G.n := by rw [hf.nF, h.nF]; omega
  have nU : PF.nU = 1 := by rw [hf.nU, h.nU]; omega
  have fr2 : ∀ k, k < G.n → PF.free k = ((k : Nat) : Int) := by
    intro k hk
    have := hf.fr2 k hk
    rw [h.nF, show 0 - L.t + k = k by omega] at this
    exact this
  have un2 : PF.unused 0 = 0 := by
    have := hf.un2
    rw [h.nU, show 0 - L.nb = 0 by omega] at this
    exact this
  have tE := hf.tE
  have nbE := hf.nbE
  rw [h.nE] at tE nbE
  have nS : PF.nS = G.n + L.t := by rw [hf.nS, h.nS, h.nF]; omega
  have nC : PF.nC = 1 + L.nb := by rw [hf.nC, h.nC, h.nU]; omega
  have mk := hf.mks
  rw [h.marks] at mk
  refine ⟨⟨fun j hj => ?_, fun i j hi hj e => ?_, fun j hj => ?_, fun i j hi hj _ => ?_⟩, fun i hi => ?_, fun j hj => ?_, hf.idx, hf.nK, hf.nQ, ⟨mk.1, by omega⟩, hf.mark, by rw [hf.nE, h.nE]; exact hE, by omega, by omega⟩
  · rw [nF] at hj; rw [fr2 j hj]; omega
  · rw [nF] at hi hj; rw [fr2 i hi, fr2 j hj] at e; omega
  · rw [nU] at hj
    have : j = 0 := by omega
    subst this; rw [un2]; omega
  · omega
  · rw [nF] at hi; rw [fr2 i hi, Int.toNat_natCast]; exact (hf.sold i hi).1
  · rw [nU] at hj
    have : j = 0 := by omega
    subst this; rw [un2]; exact hf.cc

/-- The j-th slot of component c. -/
def PS.sl (P : PS) (c j : Nat) : Nat := (P.mem c j).toNat
section
variable {G : GR} {R : Nat → Nat → Bool} {nc : Nat} {cls : Nat → Nat} {P : PS} {c : Nat}
theorem Meet.bmem {X : MD} (h : Meet X P) (c1 : c < P.nC) {j : Nat} (hj : j < P.mn c) : P.mem c j = ((P.sl c j : Nat) : Int) ∧ P.sl c j < P.nS ∧ P.comp (P.sl c j) = ((c : Nat) : Int) ∧ ∃ v : Nat, P.node (P.sl c j) = (v : Int) ∧ v < X.n := by
  obtain ⟨s, v, a1, a2, a3, _, a5, a6⟩ := h.m1 c j c1 hj
  have e : P.sl c j = s := by unfold PS.sl; rw [a2, Int.toNat_natCast]
  rw [e]
  exact ⟨a2, a1, a3, v, a5, a6⟩
theorem Meet.binj {X : MD} (h : Meet X P) (c1 : c < P.nC) {j j' : Nat} (hj : j < P.mn c) (hj' : j' < P.mn c) (e : P.node (P.sl c j) = P.node (P.sl c j')) : j = j' := h.m2 c j j' c1 hj hj' e
theorem Meet.ball {X : MD} (h : Meet X P) (c1 : c < P.nC) (c2 : P.mn c ≠ 0) {s : Nat} (hs : s < P.nS) (hc : P.comp s = ((c : Nat) : Int)) : ∃ j, j < P.mn c ∧ P.sl c j = s := by
  refine Classical.byContradiction fun hno => ?_
  have hcn := (h.c1 c c1 c2).2.2
  have pm : ∀ k, (P.comp (if k < P.mn c then P.sl c k else s) == ((c : Nat) : Int)) = true ∧ (if k < P.mn c then P.sl c k else s) < P.nS := by
    intro k
    by_cases hk : k < P.mn c
    · rw [if_pos hk]
      obtain ⟨_, b2, b3, _⟩ := h.bmem c1 hk
      exact ⟨by rw [b3]; simp, b2⟩
    · rw [if_neg hk]
      exact ⟨by rw [hc]; simp, hs⟩
  have inj : ∀ i j, i < P.mn c + 1 → j < P.mn c + 1 → (if i < P.mn c then P.sl c i else s) = (if j < P.mn c then P.sl c j else s) → i = j := by
    intro i j hi hj e
    by_cases h1 : i < P.mn c <;> by_cases h2 : j < P.mn c <;> simp only [h1, h2, if_true, if_false] at e
    · exact h.binj c1 h1 h2 (by rw [e])
    · exact absurd ⟨i, h1, e⟩ hno
    · exact absurd ⟨j, h2, e.symm⟩ hno
    · omega
  have := pigeon (cnt (fun s => P.comp s == ((c : Nat) : Int)) P.nS) (P.mn c + 1) (fun k => cnt (fun s => P.comp s == ((c : Nat) : Int)) (if k < P.mn c then P.sl c k else s)) (fun k _ => cnt_lt (pm k).2 (pm k).1) (fun i j hi hj e => by
    have e : cnt (fun s => P.comp s == ((c : Nat) : Int)) (if i < P.mn c then P.sl c i else s) = cnt (fun s => P.comp s == ((c : Nat) : Int)) (if j < P.mn c then P.sl c j else s) := e
    refine inj i j hi hj ?_
    rcases Nat.lt_trichotomy (if i < P.mn c then P.sl c i else s) (if j < P.mn c then P.sl c j else s) with hh | hh | hh
    · have := cnt_lt (p := fun s => P.comp s == ((c : Nat) : Int)) hh (pm i).1; omega
    · exact hh
    · have := cnt_lt (p := fun s => P.comp s == ((c : Nat) : Int)) hh (pm j).1; omega)
  omega
/-- The component's edges. -/
theorem Meet.binC {X : MD} (h : Meet X P) (c1 : c < P.nC) (c2 : P.mn c ≠ 0) {e : Nat} : InC P (P.mn c) (P.sl c) e ↔ e < X.E ∧ X.onc e = true ∧ P.comp (P.fr e).toNat = ((c : Nat) : Int) := by
  constructor
  · rintro ⟨j, k, j1, k1, k2⟩
    obtain ⟨_, b2, b3, _⟩ := h.bmem c1 j1
    obtain ⟨e', e1, e2, e3⟩ := h.o1 _ k b2 k1
    have : e' = e := by rw [k2] at e1; omega
    subst this
    have ho : X.onc e' = true := by
      cases ho : X.onc e' with
      | true => rfl
      | false => have := (h.off e' e2 ho).1; rw [e3] at this; omega
    exact ⟨e2, ho, by rw [e3, Int.toNat_natCast]; exact b3⟩
  · rintro ⟨he, ho, hc⟩
    obtain ⟨f, t, c', f1, t1, q1, q2, q3, q4, q5, q6⟩ := h.on e he ho
    rw [q1, Int.toNat_natCast] at hc
    obtain ⟨j, j1, j2⟩ := h.ball c1 c2 f1 hc
    obtain ⟨k, k1, k2⟩ := h.o2 f e f1 he q1
    exact ⟨j, k, j1, by rw [j2]; exact k1, by rw [j2]; exact k2⟩
theorem Meet.bends {X : MD} (h : Meet X P) (c1 : c < P.nC) (c2 : P.mn c ≠ 0) {e : Nat} (hi : InC P (P.mn c) (P.sl c) e) : ∃ f t : Nat, P.fr e = (f : Int) ∧ P.to e = (t : Int) ∧ (∃ j, j < P.mn c ∧ P.sl c j = f) ∧ (∃ j, j < P.mn c ∧ P.sl c j = t) ∧ P.node f = ((X.sr e : Nat) : Int) ∧ P.node t = ((X.ds e : Nat) : Int) := by
  obtain ⟨he, ho, hc⟩ := (h.binC c1 c2).1 hi
  obtain ⟨f, t, c', f1, t1, q1, q2, q3, q4, q5, q6⟩ := h.on e he ho
  rw [q1, Int.toNat_natCast] at hc
  exact ⟨f, t, q1, q2, h.ball c1 c2 f1 hc, h.ball c1 c2 t1 (by rw [q6, ← q5]; exact hc), q3, q4⟩
/-- Edges of one class are of one component. -/
theorem Meet.bcls {X : MD} (h : Meet X P) (c1 : c < P.nC) (c2 : P.mn c ≠ 0) {e f : Nat} (hi : InC P (P.mn c) (P.sl c) e) (hf : f < X.E) (ho : X.onc f = true) : X.cls e = X.cls f ↔ InC P (P.mn c) (P.sl c) f := by
  obtain ⟨e1, e2, e3⟩ := (h.binC c1 c2).1 hi
  rw [h.eqv e f e1 hf e2 ho, h.binC c1 c2, e3]
  exact ⟨fun h => ⟨hf, ho, h.symm⟩, fun h => h.2.2.symm⟩

theorem Meet.bgo (h : Meet (G.md R nc cls) P) (ok : G.Ok) (hm : MOk G R nc cls) (hc : Calm P) (c1 : c < P.nC) (c2 : P.mn c ≠ 0) : DGo P c (P.mn c) (P.sl c) := by
  have n1 : P.mn c ≤ 4096 := by
    have ex : ∀ j, ∃ v, j < P.mn c → P.node (P.sl c j) = ((v : Nat) : Int) ∧ v < G.n := by
      intro j
      by_cases hj : j < P.mn c
      · obtain ⟨_, _, _, v, v1, v2⟩ := h.bmem c1 hj
        exact ⟨v, fun _ => ⟨v1, v2⟩⟩
      · exact ⟨0, fun h => absurd h hj⟩
    obtain ⟨f, hf⟩ := Classical.axiomOfChoice ex
    have := pigeon G.n (P.mn c) f (fun j hj => (hf j hj).2) (fun i j hi hj e => h.binj c1 hi hj (by rw [(hf i hi).1, (hf j hj).1, e]))
    have := ok.n
    omega
  have nS := hc.nS
  have nC := hc.nC
  have mk := hc.mks
  refine ⟨c1, rfl, fun j hj => (h.bmem c1 hj).1, n1, hc.nE, by omega, by omega, fun j hj => (h.bmem c1 hj).2.1, fun i j hi hj e => h.binj c1 hi hj (by rw [e]), fun j hj => (h.bmem c1 hj).2.2.1, hc.idx, fun j k hj hk => ?_, fun j k k' hj => h.o3 _ k k' (h.bmem c1 hj).2.1, hc.nK, hc.nQ, hc.sp, fun j i hj hi => ?_, fun i hi => ?_, hc.m0, ⟨mk.1, by omega⟩, hc.mark⟩
  · obtain ⟨e, e1, e2, e3⟩ := h.o1 _ k (h.bmem c1 hj).2.1 hk
    have hi : InC P (P.mn c) (P.sl c) e := ⟨j, k, hj, hk, e1⟩
    obtain ⟨f, t, q1, q2, q3, q4, q5, q6⟩ := h.bends c1 c2 hi
    have ef : f = P.sl c j := by rw [q1] at e3; omega
    refine ⟨e, t, e1, by rw [h.nE]; exact e2, e3, q2, q4, fun et => ?_⟩
    have ho := ((h.binC c1 c2).1 hi).2.1
    have := ((hm.rs.ocb_iff ok e2).1 ho).1
    rw [ef] at q5
    rw [et, q5] at q6
    have q6 : ((G.sr e : Nat) : Int) = ((G.ds e : Nat) : Int) := q6
    omega
  · intro e
    have h1 := hc.fr0 i hi
    rw [e, Int.toNat_natCast, (h.bmem c1 hj).2.2.1] at h1
    omega
  · intro e
    have h1 := hc.m0 i hi
    rw [e, Int.toNat_natCast] at h1
    exact c2 h1
theorem Meet.brest (h : Meet (G.md R nc cls) P) (hc : Calm P) (c1 : c < P.nC) (c2 : P.mn c ≠ 0) : Rest (G.md R nc cls) P c (P.mn c) (P.sl c) := by
  refine ⟨h.nE, hc.fr0, h.s0, fun s hs hcs => ?_, fun j hj => (h.bmem c1 hj).2.2.2, fun j j' hj hj' => h.binj c1 hj hj', fun e he => ?_, fun e f t hi hf ht => ?_, h.cl, fun e e' he he' ho ho' _ _ => h.eqv e e' he he' ho ho', fun e e' he he' ho ho' hi hn hq => hn ((h.bcls c1 c2 hi he' ho').1 hq), fun c' hc' _ => h.c1 c' hc', fun c' j hc' _ => h.m1 c' j hc', fun c' j j' hc' _ => h.m2 c' j j' hc', fun s k hs _ => h.o1 s k hs, fun s e hs _ => h.o2 s e hs, fun s k k' hs _ => h.o3 s k k' hs⟩
  · obtain ⟨c', d1, d2, d3⟩ := h.s1 s hs hcs
    by_cases e : c' = c
    · subst e
      obtain ⟨j, j1, j2⟩ := h.ball c1 c2 hs d2
      exact .inl ⟨j, j1, j2.symm⟩
    · exact .inr ⟨c', d1, e, d2, d3⟩
  · cases ho : (G.md R nc cls).onc e with
    | false => exact .inr (.inl ⟨rfl, h.off e he ho⟩)
    | true =>
      obtain ⟨f, t, c', f1, t1, q1, q2, q3, q4, q5, q6⟩ := h.on e he ho
      by_cases e1 : c' = c
      · subst e1
        exact .inl ((h.binC c1 c2).2 ⟨he, ho, by rw [q1, Int.toNat_natCast]; exact q5⟩)
      · exact .inr (.inr ⟨rfl, f, t, c', e1, f1, t1, q1, q2, q3, q4, q5, q6⟩)
  · obtain ⟨f', t', q1, q2, _, _, q5, q6⟩ := h.bends c1 c2 hi
    have e1 : f' = f := by rw [hf] at q1; omega
    have e2 : t' = t := by rw [ht] at q2; omega
    subst e1
    subst e2
    exact ⟨q5, q6⟩

/-- The slot of a node of the component. -/
theorem Meet.bslot (h : Meet (G.md R nc cls) P) (c1 : c < P.nC) {s s' : Nat} (hs : ∃ j, j < P.mn c ∧ P.sl c j = s) (hs' : ∃ j, j < P.mn c ∧ P.sl c j = s') (e : P.node s = P.node s') : s = s' := by
  obtain ⟨j, j1, rfl⟩ := hs
  obtain ⟨j', j1', rfl⟩ := hs'
  rw [h.binj c1 j1 j1' e]
/-- Inside the component the end of an edge leads back to its beginning. -/
theorem Meet.bstrong (h : Meet (G.md R nc cls) P) (ok : G.Ok) (hm : MOk G R nc cls) (hc : Calm P) (c1 : c < P.nC) (c2 : P.mn c ≠ 0) {e f t : Nat} (hi : InC P (P.mn c) (P.sl c) e) (hf : P.fr e = ((f : Nat) : Int)) (ht : P.to e = ((t : Nat) : Int)) : Rch (dg P (P.mn c) (P.sl c)).R t f := by
  have hgo := h.bgo ok hm hc c1 c2
  obtain ⟨he, ho, _⟩ := (h.binC c1 c2).1 hi
  have he : e < G.E := he
  have ho : G.ocb R e = true := ho
  obtain ⟨f', t', q1, q2, q3, q4, q5, q6⟩ := h.bends c1 c2 hi
  have e1 : f' = f := by rw [hf] at q1; omega
  have e2 : t' = t := by rw [ht] at q2; omega
  subst e1
  subst e2
  have q5 : P.node f' = ((G.sr e : Nat) : Int) := q5
  have q6 : P.node t' = ((G.ds e : Nat) : Int) := q6
  have hr := ((hm.rs.ocb_iff ok he).1 ho).2
  obtain ⟨m, v, hp⟩ := hr.simple
  -- the path's edges
  have pe : ∀ i, i < m → ∃ x, InC P (P.mn c) (P.sl c) x ∧ G.sr x = v i ∧ G.ds x = v (i + 1) := by
    have edge : ∀ i, i < m → ∃ x, x < G.E ∧ G.sr x = v i ∧ G.ds x = v (i + 1) ∧ G.ocb R x = true := by
      intro i hi'
      obtain ⟨x, x1, x2, x3⟩ := hp.st i hi'
      refine ⟨x, x1, x2, x3, (hm.rs.ocb_iff ok x1).2 ⟨?_, ?_⟩⟩
      · rw [x2, x3]
        intro e3
        have := hp.inj i (i + 1) (by omega) (by omega) e3
        omega
      · rw [x2, x3]
        have r1 : Rch G.adj (v (i + 1)) (v m) := by
          have := hp.reach (i := i + 1) (m - (i + 1)) (by omega)
          rw [show i + 1 + (m - (i + 1)) = m by omega] at this
          exact this
        have r2 : Rch G.adj (v 0) (v i) := by
          have := hp.reach (i := 0) i (by omega)
          rw [Nat.zero_add] at this
          exact this
        rw [hp.hm] at r1
        rw [hp.h0] at r2
        exact (r1.trans (Rch.one ⟨e, he, rfl, rfl⟩)).trans r2
    have hpI : SPath (fun x y => ∃ f, G.I R x f y) (G.ds e) (G.sr e) m v := ⟨hp.h0, hp.hm, fun i hi' => by
      obtain ⟨x, x1, x2, x3, x4⟩ := edge i hi'
      exact ⟨x, x1, x4, .inl ⟨x2, x3⟩⟩, hp.inj⟩
    intro i hi'
    obtain ⟨x, x1, x2, x3, x4⟩ := edge i hi'
    have hq : EqN (G.I R) G.n e x := cycle_eqN GR.I_symm GR.I_two (e := e) ⟨he, ho, .inl ⟨rfl, rfl⟩⟩ hpI hi' ⟨x1, x4, .inl ⟨x2, x3⟩⟩
    have hrl := hm.rs.rl_of_eqN ok he x1 ho x4 hq
    have hcls := (hm.eqv e x he x1 ho x4).2 hrl
    exact ⟨x, (h.bcls c1 c2 hi x1 x4).1 hcls, x2, x3⟩
  have key : ∀ i, i ≤ m → ∃ s, (∃ j, j < P.mn c ∧ P.sl c j = s) ∧ P.node s = ((v i : Nat) : Int) ∧ Rch (dg P (P.mn c) (P.sl c)).R t' s := by
    intro i
    induction i with
    | zero => intro _; exact ⟨t', q4, by rw [hp.h0]; exact q6, Rch.refl _ _⟩
    | succ i ih =>
      intro hi'
      obtain ⟨s, s1, s2, s3⟩ := ih (by omega)
      obtain ⟨x, x1, x2, x3⟩ := pe i (by omega)
      obtain ⟨fx, tx, y1, y2, y3, y4, y5, y6⟩ := h.bends c1 c2 x1
      have y5 : P.node fx = ((G.sr x : Nat) : Int) := y5
      have y6 : P.node tx = ((G.ds x : Nat) : Int) := y6
      have es : s = fx := h.bslot c1 s1 y3 (by rw [s2, y5, x2])
      subst es
      exact ⟨tx, y4, by rw [y6, x3], s3.step ((hgo.step s tx).2 ⟨x, x1, y1, y2⟩)⟩
  obtain ⟨s, s1, s2, s3⟩ := key m (Nat.le_refl _)
  have : s = f' := h.bslot c1 s1 q3 (by rw [s2, hp.hm, q5])
  rw [← this]; exact s3

/-- Inside the component, without the node of slot y, two edges hang together. -/
theorem Meet.btwo (h : Meet (G.md R nc cls) P) (ok : G.Ok) (hm : MOk G R nc cls) (c1 : c < P.nC) (c2 : P.mn c ≠ 0) {e e' x u u' v v' : Nat} (hi : InC P (P.mn c) (P.sl c) e) (hi' : InC P (P.mn c) (P.sl c) e') (hx : x < G.n) (hu : Btw P (P.mn c) (P.sl c) u e v) (hu' : Btw P (P.mn c) (P.sl c) u' e' v') (n1 : P.node u ≠ ((x : Nat) : Int)) (n2 : P.node u' ≠ ((x : Nat) : Int)) :
    Rch (fun p q => P.node p ≠ ((x : Nat) : Int) ∧ P.node q ≠ ((x : Nat) : Int) ∧ ∃ f, Btw P (P.mn c) (P.sl c) p f q) u u' := by
  obtain ⟨he, ho, _⟩ := (h.binC c1 c2).1 hi
  obtain ⟨he', ho', _⟩ := (h.binC c1 c2).1 hi'
  have he : e < G.E := he
  have ho : G.ocb R e = true := ho
  have he' : e' < G.E := he'
  have ho' : G.ocb R e' = true := ho'
  have hrl := (hm.eqv e e' he he' ho ho').1 ((h.bcls c1 c2 hi he' ho').2 hi')
  have hq := hm.rs.eqN_of_rl ok he he' ho ho' hrl
  -- an edge between slots is one between their nodes
  have nb : ∀ p f q, Btw P (P.mn c) (P.sl c) p f q → ∃ a b : Nat, P.node p = (a : Int) ∧ P.node q = (b : Int) ∧ G.I R a f b ∧ (∃ j, j < P.mn c ∧ P.sl c j = p) ∧ (∃ j, j < P.mn c ∧ P.sl c j = q) := by
    rintro p f q ⟨hif, hb⟩
    obtain ⟨h1, h2, _⟩ := (h.binC c1 c2).1 hif
    obtain ⟨fx, tx, y1, y2, y3, y4, y5, y6⟩ := h.bends c1 c2 hif
    rcases hb with ⟨b1, b2⟩ | ⟨b1, b2⟩
    · have e1 : fx = p := by rw [b1] at y1; omega
      have e2 : tx = q := by rw [b2] at y2; omega
      subst e1
      subst e2
      exact ⟨G.sr f, G.ds f, y5, y6, ⟨h1, h2, .inl ⟨rfl, rfl⟩⟩, y3, y4⟩
    · have e1 : fx = q := by rw [b1] at y1; omega
      have e2 : tx = p := by rw [b2] at y2; omega
      subst e1
      subst e2
      exact ⟨G.ds f, G.sr f, y6, y5, ⟨h1, h2, .inr ⟨rfl, rfl⟩⟩, y4, y3⟩
  obtain ⟨a, b, a1, a2, a3, a4, _⟩ := nb u e v hu
  obtain ⟨a', b', a1', a2', a3', a4', _⟩ := nb u' e' v' hu'
  have hin := insideN GR.I_symm GR.I_two a3 a3' hq hx (by rw [a1] at n1; omega) (by rw [a1'] at n2; omega)
  have key := hin (fun p => ∃ s, (∃ j, j < P.mn c ∧ P.sl c j = s) ∧ P.node s = ((p : Nat) : Int) ∧ Rch (fun p q => P.node p ≠ ((x : Nat) : Int) ∧ P.node q ≠ ((x : Nat) : Int) ∧ ∃ f, Btw P (P.mn c) (P.sl c) p f q) u s) ⟨u, a4, a1, Rch.refl _ _⟩ (by
    rintro p q ⟨s, s1, s2, s3⟩ ⟨m1, m2, f, hf, hqf⟩
    have hrf := hm.rs.rl_of_eqN ok he hf.1 ho hf.2.1 hqf
    have hif := (h.bcls c1 c2 hi hf.1 hf.2.1).1 ((hm.eqv e f he hf.1 ho hf.2.1).2 hrf)
    obtain ⟨fx, tx, y1, y2, y3, y4, y5, y6⟩ := h.bends c1 c2 hif
    have y5 : P.node fx = ((G.sr f : Nat) : Int) := y5
    have y6 : P.node tx = ((G.ds f : Nat) : Int) := y6
    rcases hf.2.2 with ⟨e1, e2⟩ | ⟨e1, e2⟩
    · have es : s = fx := h.bslot c1 s1 y3 (by rw [s2, y5, e1])
      subst es
      refine ⟨tx, y4, by rw [y6, e2], s3.step ⟨by rw [s2]; omega, by rw [y6, e2]; omega, f, hif, .inl ⟨y1, y2⟩⟩⟩
    · have es : s = tx := h.bslot c1 s1 y4 (by rw [s2, y6, e2])
      subst es
      refine ⟨fx, y3, by rw [y5, e1], s3.step ⟨by rw [s2]; omega, by rw [y5, e1]; omega, f, hif, .inr ⟨y1, y2⟩⟩⟩)
  obtain ⟨s, s1, s2, s3⟩ := key
  have : s = u' := h.bslot c1 s1 a4' (by rw [s2, a1'])
  rw [← this]; exact s3
end
end Go.Proofs.Qxb6602148a
