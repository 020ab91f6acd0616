/-
  PLAIN: 'split' of a component that meets the model, its slots handed in any order.
-/
import Derived.Test.Qxb6602148aBe
attribute [local go_sem] Go.Proofs.Qxb6602148a.yTo Go.Proofs.Qxb6602148a.yUpon
namespace Go.Proofs.Qxb6602148a
set_option linter.unusedVariables false
set_option linter.unusedSimpArgs false

/-- str lists the slots of component c, each once. -/
structure Ord (P : PS) (c : Nat) (str : Nat → Nat) : Prop where
  inj : ∀ i j, i < P.mn c → j < P.mn c → str i = str j → i = j
  mem : ∀ i, i < P.mn c → ∃ j, j < P.mn c ∧ P.sl c j = str i
section
variable {G : GR} {R : Nat → Nat → Bool} {nc : Nat} {cls : Nat → Nat} {P : PS} {c : Nat} {str : Nat → Nat}

/-- An injection of as many into as many hits each. -/
theorem pigeon_on {n : Nat} {f : Nat → Nat} (h1 : ∀ i, i < n → f i < n) (h2 : ∀ i j, i < n → j < n → f i = f j → i = j) {k : Nat} (hk : k < n) : ∃ i, i < n ∧ f i = k := by
  refine Classical.byContradiction fun hno => ?_
  have := pigeon (n - 1) n (fun i => if f i < k then f i else f i - 1) (fun i hi => by
    have a := h1 i hi
    have b : f i ≠ k := fun e => hno ⟨i, hi, e⟩
    by_cases h : f i < k
    · simp only [if_pos h]; omega
    · simp only [if_neg h]; omega) (fun i j hi hj e => by
    have b : f i ≠ k := fun e => hno ⟨i, hi, e⟩
    have b' : f j ≠ k := fun e => hno ⟨j, hj, e⟩
    refine h2 i j hi hj ?_
    by_cases h : f i < k <;> by_cases h' : f j < k <;> simp only [h, h', if_true, if_false] at e <;> omega)
  omega
theorem Ord.all (h : Ord P c str) (hi : ∀ j j', j < P.mn c → j' < P.mn c → P.sl c j = P.sl c j' → j = j') {j : Nat} (hj : j < P.mn c) : ∃ i, i < P.mn c ∧ str i = P.sl c j := by
  have ex : ∀ i, ∃ j, i < P.mn c → j < P.mn c ∧ P.sl c j = str i := by
    intro i
    by_cases hh : i < P.mn c
    · obtain ⟨j, h1⟩ := h.mem i hh; exact ⟨j, fun _ => h1⟩
    · exact ⟨0, fun h => absurd h hh⟩
  obtain ⟨f, hf⟩ := Classical.axiomOfChoice ex
  obtain ⟨i, i1, i2⟩ := pigeon_on (n := P.mn c) (f := f) (fun i hi => (hf i hi).1) (fun i j hi hj e => h.inj i j hi hj (by rw [← (hf i hi).2, ← (hf j hj).2, e])) hj
  exact ⟨i, i1, by rw [← (hf i i1).2, i2]⟩

theorem Meet.bsgo (h : Meet (G.md R nc cls) P) (ok : G.Ok) (hm : MOk G R nc cls) (hc : Calm P) (c1 : c < P.nC) (c2 : P.mn c ≠ 0) (ho : Ord P c str) : SGo P P LS.none (P.mn c) str := by
  have hgo := h.bgo ok hm hc c1 c2
  have all := fun {j : Nat} (hj : j < P.mn c) => ho.all hgo.inj hj
  have mk := hc.mks
  refine ⟨Lay.none hc.mark, hc.sp, hc.nE, hgo.nS, hgo.nC, hc.m0, ⟨by omega, hgo.n1⟩, fun i hi => ?_, ho.inj, fun i hi k => ?_, ⟨mk.1, by show P.marks ≤ P.marks + ((0 : Nat) : Int); omega, by omega⟩, Nat.zero_le _, Nat.zero_le _, fun i j hi hj => ?_, fun i j j' hi h1 h2 => ?_, fun a b ha hb => ?_⟩
  · obtain ⟨j, j1, j2⟩ := ho.mem i hi
    rw [← j2]; exact hgo.lt j j1
  · obtain ⟨j, j1, j2⟩ := ho.mem i hi
    rw [← j2]; exact hgo.sl_ns j1 k
  · obtain ⟨q, q1, q2⟩ := ho.mem i hi
    rw [← q2] at hj ⊢
    obtain ⟨e, t, a1, a2, a3, a4, ⟨j', j'1, j'2⟩, a6⟩ := hgo.edge q j q1 hj
    exact ⟨e, t, a1, a2, a3, a4, by rw [← j'2]; exact hgo.lt j' j'1, a6, rfl, fun h => h⟩
  · obtain ⟨q, q1, q2⟩ := ho.mem i hi
    rw [← q2] at h2 ⊢
    exact hgo.incr q j j' q1 h1 h2
  · -- any two of the slots hang together
    have inn : ∀ p f q, Btw P (P.mn c) (P.sl c) p f q → ∀ i, i < P.mn c → str i = p → ∃ j, j < P.mn c ∧ str j = q ∧ (Inn P (P.mn c) str i f j ∨ Inn P (P.mn c) str j f i) := by
      rintro p f q ⟨hif, hb⟩ i hi rfl
      obtain ⟨fx, tx, y1, y2, ⟨jf, jf1, jf2⟩, ⟨jt, jt1, jt2⟩, _, _⟩ := h.bends c1 c2 hif
      obtain ⟨_, _, _, k, k1, k2⟩ := hgo.fre hif y1 y2
      rcases hb with ⟨b1, b2⟩ | ⟨b1, b2⟩
      · have e1 : fx = str i := by rw [b1] at y1; omega
        have e2 : tx = q := by rw [b2] at y2; omega
        subst e2
        obtain ⟨j, j1, j2⟩ := all jt1
        rw [jt2] at j2
        rw [e1] at k1 k2
        exact ⟨j, j1, j2, .inl ⟨hi, j1, ⟨k, k1, k2⟩, by rw [y2, j2]⟩⟩
      · have e1 : fx = q := by rw [b1] at y1; omega
        have e2 : tx = str i := by rw [b2] at y2; omega
        subst e1
        obtain ⟨j, j1, j2⟩ := all jf1
        rw [jf2] at j2
        exact ⟨j, j1, j2, .inr ⟨j1, hi, ⟨k, by rw [j2]; exact k1, by rw [j2]; exact k2⟩, by rw [y2, e2]⟩⟩
    have touch : ∀ i, i < P.mn c → ∃ e v, Btw P (P.mn c) (P.sl c) (str i) e v := by
      intro i hi
      obtain ⟨j, j1, j2⟩ := ho.mem i hi
      obtain ⟨s, v, a1, a2, a3, ⟨e, e1, e2, e3⟩, _⟩ := h.m1 c j c1 j1
      have es : s = str i := by rw [← j2]; unfold PS.sl; rw [a2, Int.toNat_natCast]
      subst es
      obtain ⟨f, t, c', f1, t1, q1, q2, q3, q4, q5, q6⟩ := h.on e e1 e2
      rcases e3 with e3 | e3
      · have : f = str i := by rw [q1] at e3; omega
        subst this
        have hi' : InC P (P.mn c) (P.sl c) e := (h.binC c1 c2).2 ⟨e1, e2, by rw [q1, Int.toNat_natCast]; exact a3⟩
        exact ⟨e, t, hi', .inl ⟨q1, q2⟩⟩
      · have : t = str i := by rw [q2] at e3; omega
        subst this
        have hi' : InC P (P.mn c) (P.sl c) e := (h.binC c1 c2).2 ⟨e1, e2, by rw [q1, Int.toNat_natCast, q5, ← q6]; exact a3⟩
        exact ⟨e, f, hi', .inr ⟨q1, q2⟩⟩
    obtain ⟨e, v, hb1⟩ := touch a ha
    obtain ⟨e', v', hb2⟩ := touch b hb
    have key := h.bspread ok hm c1 c2 (fun p => ∃ i, i < P.mn c ∧ str i = p ∧ Rch (fun a b => ∃ e, Inn P (P.mn c) str a e b ∨ Inn P (P.mn c) str b e a) a i) (by
      rintro p f q hb ⟨i, i1, i2, i3⟩
      obtain ⟨j, j1, j2, j3⟩ := inn p f q hb i i1 i2
      exact ⟨j, j1, j2, i3.step ⟨f, j3⟩⟩) hb1.1 hb2.1 hb1 hb2 ⟨a, ha, rfl, Rch.refl _ _⟩
    obtain ⟨i, i1, i2, i3⟩ := key
    rw [← ho.inj i b i1 hb i2]; exact i3

/-- What 'split' leaves of P: every edge of component c is moved into the one component D0, t = as many new slots as c has. -/
structure SF (E : Nat) (P : PS) (c : Nat) (D0 : Nat) (nu : Nat → Nat) (P2 : PS) : Prop where
  nE : P2.nE = P.nE
  nS : P2.nS = P.nS + (P.mn c - P.nF)
  nC : P.nC ≤ P2.nC
  D2 : D0 < P2.nC
  Dc : D0 ≠ c
  Du : D0 < P.nC → P.mn D0 = 0
  lt : ∀ k, k < P.mn c → P.ns k < P2.nS
  nui : ∀ k k', k < P.mn c → k' < P.mn c → nu k = nu k' → k = k'
  num : ∀ k, k < P.mn c → ∃ j, j < P.mn c ∧ P.sl c j = nu k
  node : ∀ k, k < P.mn c → P2.node (P.ns k) = P.node (nu k)
  comp : ∀ k, k < P.mn c → P2.comp (P.ns k) = (D0 : Int)
  mn : P2.mn D0 = P.mn c
  mem : ∀ j, j < P.mn c → P2.mem D0 j = ((P.ns j : Nat) : Int)
  olds : ∀ s, (∀ k, k < P.mn c → s ≠ P.ns k) → P2.node s = P.node s ∧ P2.comp s = P.comp s ∧ P2.on s = P.on s ∧ P2.out s = P.out s
  oldc : ∀ c', c' ≠ D0 → P2.mn c' = P.mn c' ∧ P2.mem c' = P.mem c' ∧ P2.edg c' = P.edg c'
  ein : ∀ e, InC P (P.mn c) (P.sl c) e → ∃ k k', k < P.mn c ∧ k' < P.mn c ∧ P2.fr e = ((P.ns k : Nat) : Int) ∧ P2.to e = ((P.ns k' : Nat) : Int) ∧ P.fr e = ((nu k : Nat) : Int) ∧ P.to e = ((nu k' : Nat) : Int)
  eout : ∀ e, ¬ InC P (P.mn c) (P.sl c) e → P2.fr e = P.fr e ∧ P2.to e = P.to e
  out1 : ∀ k j, k < P.mn c → j < P2.on (P.ns k) → ∃ e : Nat, P2.out (P.ns k) j = (e : Int) ∧ InC P (P.mn c) (P.sl c) e ∧ P2.fr e = ((P.ns k : Nat) : Int)
  out2 : ∀ k e, k < P.mn c → InC P (P.mn c) (P.sl c) e → P2.fr e = ((P.ns k : Nat) : Int) → ∃ j, j < P2.on (P.ns k) ∧ P2.out (P.ns k) j = (e : Int)
  out3 : ∀ k i j, k < P.mn c → i < j → j < P2.on (P.ns k) → P2.out (P.ns k) i < P2.out (P.ns k) j
  edg : ∀ p : Nat → Bool, (∀ e, e < E → (p e = true ↔ InC P (P.mn c) (P.sl c) e)) → P2.edg D0 = ((cnt p E : Nat) : Int)

theorem Meet.bsplit (h : Meet (G.md R nc cls) P) (ok : G.Ok) (hm : MOk G R nc cls) (hc : Calm P) (c1 : c < P.nC) (c2 : P.mn c ≠ 0) (ho : Ord P c str) {S : SS} (hS : SEnd P LS.none (P.mn c) str S) : ∃ nu, SF G.E P c (P.cs 0) nu S.P := by
  have hgo := h.bgo ok hm hc c1 c2
  have all := fun {j : Nat} (hj : j < P.mn c) => ho.all hgo.inj hj
  obtain ⟨U, s, uok, hN, hU, po, mk⟩ := hS
  have lay := po.lay
  have nE : P.nE = G.E := h.nE
  -- the edges that take part
  have inn : ∀ a e b, Inn P (P.mn c) str a e b → InC P (P.mn c) (P.sl c) e := by
    rintro a e b ⟨h1, h2, ⟨j, hj, hj2⟩, _⟩
    obtain ⟨q, q1, q2⟩ := ho.mem a h1
    exact ⟨q, j, q1, by rw [q2]; exact hj, by rw [q2]; exact hj2⟩
  have btw : ∀ p e q, Btw P (P.mn c) (P.sl c) p e q → ∃ a b, a < P.mn c ∧ b < P.mn c ∧ str a = p ∧ str b = q ∧ U.inc a e b := by
    rintro p e q ⟨hif, hb⟩
    obtain ⟨fx, tx, y1, y2, ⟨jf, jf1, jf2⟩, ⟨jt, jt1, jt2⟩, _, _⟩ := h.bends c1 c2 hif
    obtain ⟨_, _, _, k, k1, k2⟩ := hgo.fre hif y1 y2
    obtain ⟨a, a1, a2⟩ := all jf1
    obtain ⟨b, b1, b2⟩ := all jt1
    rw [jf2] at a2
    rw [jt2] at b2
    have hi : Inn P (P.mn c) str a e b := ⟨a1, b1, ⟨k, by rw [a2]; exact k1, by rw [a2]; exact k2⟩, by rw [y2, b2]⟩
    rcases hb with ⟨b3, b4⟩ | ⟨b3, b4⟩
    · exact ⟨a, b, a1, b1, by rw [a2]; rw [b3] at y1; omega, by rw [b2]; rw [b4] at y2; omega, (hU a e b).2 (.inl hi)⟩
    · exact ⟨b, a, b1, a1, by rw [b2]; rw [b4] at y2; omega, by rw [a2]; rw [b3] at y1; omega, (hU b e a).2 (.inr hi)⟩
  have inU : ∀ e, (∃ a b, U.inc a e b) ↔ InC P (P.mn c) (P.sl c) e := by
    intro e
    constructor
    · rintro ⟨a, b, hi⟩
      rcases (hU a e b).1 hi with h1 | h1
      · exact inn a e b h1
      · exact inn b e a h1
    · intro hi
      obtain ⟨f, t, q1, q2, _⟩ := h.bends c1 c2 hi
      obtain ⟨a, b, _, _, _, _, hh⟩ := btw f e t ⟨hi, .inl ⟨q1, q2⟩⟩
      exact ⟨a, b, hh⟩
  have incB : ∀ a e b, U.inc a e b → a < P.mn c ∧ b < P.mn c ∧ Btw P (P.mn c) (P.sl c) (str a) e (str b) := by
    have one : ∀ a e b, Inn P (P.mn c) str a e b → a < P.mn c ∧ b < P.mn c ∧ Btw P (P.mn c) (P.sl c) (str a) e (str b) := by
      rintro a e b hi
      have hif := inn a e b hi
      obtain ⟨h1, h2, ⟨j, hj, hj2⟩, h4⟩ := hi
      obtain ⟨q, q1, q2⟩ := ho.mem a h1
      rw [← q2] at hj hj2
      obtain ⟨e', t', a1, a2, a3, _⟩ := hgo.edge q j q1 hj
      have : e' = e := by rw [hj2] at a1; omega
      subst this
      exact ⟨h1, h2, hif, .inl ⟨by rw [a3, q2], h4⟩⟩
    intro a e b hi
    rcases (hU a e b).1 hi with h1 | h1
    · exact one a e b h1
    · obtain ⟨b1, b2, b3, b4⟩ := one b e a h1
      exact ⟨b2, b1, b3, b4.symm⟩
  -- no node parts them
  have eqv : ∀ e e', InC P (P.mn c) (P.sl c) e → InC P (P.mn c) (P.sl c) e' → U.Eqv e e' := by
    intro e e' hi hi' x a b a' b' i1 i2 n1 n2
    obtain ⟨p1, p2, p3⟩ := incB a e b i1
    obtain ⟨p1', p2', p3'⟩ := incB a' e' b' i2
    rcases Nat.lt_or_ge x (P.mn c) with hx | hx
    · obtain ⟨jx, jx1, jx2⟩ := ho.mem x hx
      obtain ⟨_, _, _, vx, vx1, vx2⟩ := h.bmem c1 jx1
      rw [jx2] at vx1
      have ne : ∀ i, i < P.mn c → i ≠ x → P.node (str i) ≠ ((vx : Nat) : Int) := fun i hi' hn e => hn (ho.inj i x hi' hx (h.bslot c1 (ho.mem i hi') ⟨jx, jx1, jx2⟩ (by rw [e, vx1])))
      have := h.btwo ok hm c1 c2 hi hi' (x := vx) vx2 p3 p3' (ne a p1 n1) (ne a' p1' n2)
      have key := this (fun p => ∃ i, i < P.mn c ∧ str i = p ∧ U.Cn x a i) ⟨a, p1, rfl, Rch.refl _ _⟩ (by
        rintro p q ⟨i, i1, rfl, i3⟩ ⟨m1, m2, f, hb⟩
        obtain ⟨a2, b2, a3, b3, a4, b4, hinc⟩ := btw (str i) f q hb
        have e1 : a2 = i := ho.inj a2 i a3 i1 a4
        subst e1
        have nx : b2 ≠ x := fun e => m2 (by rw [← b4, e]; exact vx1)
        have nx' : a2 ≠ x := fun e => m1 (by rw [e]; exact vx1)
        exact ⟨b2, b3, b4, i3.step ⟨nx', nx, f, hinc⟩⟩)
      obtain ⟨i, i1', i2', i3'⟩ := key
      rw [← ho.inj i a' i1' p1' i2']; exact i3'
    · have key := h.bspread ok hm c1 c2 (fun p => ∃ i, i < P.mn c ∧ str i = p ∧ U.Cn x a i) (by
        rintro p f q hb ⟨i, i1, rfl, i3⟩
        obtain ⟨a2, b2, a3, b3, a4, b4, hinc⟩ := btw (str i) f q hb
        have e1 : a2 = i := ho.inj a2 i a3 i1 a4
        subst e1
        exact ⟨b2, b3, b4, i3.step ⟨by omega, by omega, f, hinc⟩⟩) hi hi' p3 p3' ⟨a, p1, rfl, Rch.refl _ _⟩
      obtain ⟨i, i1', i2', i3'⟩ := key
      rw [← ho.inj i a' i1' p1' i2']; exact i3'
  have blk1 : ∀ e, InC P (P.mn c) (P.sl c) e → S.L.blk e = s.blk e ∧ 1 ≤ s.blk e ∧ s.blk e ≤ s.nb := by
    intro e hi
    have := po.blk e ((inU e).2 hi)
    have h0 : LS.none.nb = 0 := rfl
    rw [h0, Nat.zero_add] at this
    exact this
  have blk0 : ∀ e, ¬ InC P (P.mn c) (P.sl c) e → S.L.blk e = 0 := fun e hn => po.blko e (fun hh => hn ((inU e).1 hh))
  have nbs : S.L.nb = s.nb := by rw [po.nb]; show 0 + s.nb = s.nb; omega
  obtain ⟨e0, h0⟩ := h.bex c1 c2
  have b0 := blk1 e0 h0
  have allb : ∀ e, InC P (P.mn c) (P.sl c) e → s.blk e = s.blk e0 := fun e hi => (po.eqv e e0 ((inU e).2 hi) ((inU e0).2 h0)).2 (eqv e e0 hi h0)
  have ein : ∀ e, S.L.blk e ≠ 0 → InC P (P.mn c) (P.sl c) e := fun e he => Classical.byContradiction fun hn => he (blk0 e hn)
  have nb1 : S.L.nb = 1 := by
    have a1 : ∀ β, 1 ≤ β → β ≤ S.L.nb → β = s.blk e0 := by
      intro β h1 h2
      obtain ⟨e, he⟩ := po.full β h1 h2
      have hi := ein e (by omega)
      rw [← he, (blk1 e hi).1, allb e hi]
    have := a1 1 (by omega) (by omega)
    have := a1 S.L.nb (by omega) (Nat.le_refl _)
    omega
  have bl1 : ∀ e, InC P (P.mn c) (P.sl c) e → S.L.blk e = 1 := fun e hi => by
    have := blk1 e hi
    omega
  have kb0 := lay.kb0
  have kbt := lay.kbt
  rw [nb1] at kbt
  have kb1 : S.L.kb (0 + 1) = S.L.t := kbt
  have sp := hc.sp
  -- a moved edge
  have mov : ∀ e, InC P (P.mn c) (P.sl c) e → ∃ k k', k < S.L.t ∧ k' < S.L.t ∧ S.P.fr e = ((P.ns k : Nat) : Int) ∧ S.P.to e = ((P.ns k' : Nat) : Int) ∧ P.fr e = ((S.L.nu k : Nat) : Int) ∧ P.to e = ((S.L.nu k' : Nat) : Int) := by
    intro e hi
    obtain ⟨m1, m2, k, k', m3, m4, m5, m6, m7, m8, m9, m10⟩ := lay.move e (by rw [bl1 e hi]; omega)
    rw [bl1 e hi] at m4 m6
    have e1 : S.L.kb 1 = S.L.t := kbt
    exact ⟨k, k', by omega, by omega, m7, m8, m9, m10⟩
  have nui : ∀ k k', k < S.L.t → k' < S.L.t → S.L.nu k = S.L.nu k' → k = k' := fun k k' hk hk' e => lay.nuinj 0 k k' (by omega) (by omega) (by omega) (by omega) (by omega) e
  have num : ∀ k, k < S.L.t → ∃ j, j < P.mn c ∧ P.sl c j = S.L.nu k := by
    intro k hk
    obtain ⟨e, e1, e2⟩ := po.tou k (Nat.zero_le _) hk
    have hi := ein e e1
    obtain ⟨k1, k2, a1, a2, a3, a4, a5, a6⟩ := mov e hi
    obtain ⟨f, t, q1, q2, q3, q4, _⟩ := h.bends c1 c2 hi
    rcases e2 with e2 | e2
    · have : k1 = k := sp.ns_inj (by rw [a3] at e2; omega)
      subst this
      have : f = S.L.nu k1 := by rw [q1] at a5; omega
      rw [← this]; exact q3
    · have : k2 = k := sp.ns_inj (by rw [a4] at e2; omega)
      subst this
      have : t = S.L.nu k2 := by rw [q2] at a6; omega
      rw [← this]; exact q4
  -- as many as there were
  have tN : S.L.t = P.mn c := by
    have ex1 : ∀ k, ∃ j, k < S.L.t → j < P.mn c ∧ P.sl c j = S.L.nu k := by
      intro k
      by_cases hk : k < S.L.t
      · obtain ⟨j, hj⟩ := num k hk; exact ⟨j, fun _ => hj⟩
      · exact ⟨0, fun h => absurd h hk⟩
    obtain ⟨f, hf⟩ := Classical.axiomOfChoice ex1
    have l1 := pigeon (P.mn c) S.L.t f (fun k hk => (hf k hk).1) (fun i j hi hj e => nui i j hi hj (by rw [← (hf i hi).2, ← (hf j hj).2, e]))
    have ex2 : ∀ j, ∃ k, j < P.mn c → k < S.L.t ∧ S.L.nu k = P.sl c j := by
      intro j
      by_cases hj : j < P.mn c
      · obtain ⟨s', v, a1, a2, a3, ⟨e, e1, e2, e3⟩, _⟩ := h.m1 c j c1 hj
        have es : s' = P.sl c j := by unfold PS.sl; rw [a2, Int.toNat_natCast]
        obtain ⟨f, t, c', f1, t1, q1, q2, q3, q4, q5, q6⟩ := h.on e e1 e2
        have hi : InC P (P.mn c) (P.sl c) e := by
          refine (h.binC c1 c2).2 ⟨e1, e2, ?_⟩
          rcases e3 with e3 | e3
          · rw [e3, Int.toNat_natCast]; exact a3
          · have : t = s' := by rw [q2] at e3; omega
            rw [q1, Int.toNat_natCast, q5, ← q6, this]; exact a3
        obtain ⟨k1, k2, b1, b2, b3, b4, b5, b6⟩ := mov e hi
        rcases e3 with e3 | e3
        · exact ⟨k1, fun _ => ⟨b1, by rw [b5] at e3; omega⟩⟩
        · exact ⟨k2, fun _ => ⟨b2, by rw [b6] at e3; omega⟩⟩
      · exact ⟨0, fun h => absurd h hj⟩
    obtain ⟨g, hg⟩ := Classical.axiomOfChoice ex2
    have l2 := pigeon S.L.t (P.mn c) g (fun j hj => (hg j hj).1) (fun i j hi hj e => hgo.inj i j hi hj (by rw [← (hg i hi).2, ← (hg j hj).2, e]))
    omega
  have lN : ∀ β, β < S.L.nb → β = 0 := fun β hβ => by omega
  refine ⟨S.L.nu, ⟨lay.nE, by rw [lay.nS, tN], by rw [lay.nC]; omega, lay.cs_lt sp (by omega), (hgo.c_cs 0).symm, fun hlt => ?_, fun k hk => lay.ns_lt sp (by omega), fun k k' hk hk' => nui k k' (by omega) (by omega), fun k hk => num k (by omega), fun k hk => lay.node k (by omega), fun k hk => lay.comp 0 k (by omega) (by omega) (by omega), ?_, fun j hj => ?_, fun s' hs => ?_, fun c' hc' => lay.oldc c' (fun β hβ => by rw [lN β hβ]; exact hc'), fun e hi => ?_, fun e hn => lay.keep e (blk0 e hn), fun k j hk hj => ?_, fun k e hk hi hf => ?_, fun k i j hk => lay.out3 k i j (by omega), fun p hp => ?_⟩⟩
  · unfold PS.cs at hlt ⊢
    by_cases hz : 0 < P.nU
    · rw [if_pos hz] at hlt ⊢
      exact hc.m0 _ (by omega)
    · rw [if_neg hz] at hlt; omega
  · rw [lay.mn 0 (by omega)]; omega
  · have := lay.mem 0 j (by omega) (by omega)
    rw [kb0, Nat.zero_add] at this
    exact this
  · obtain ⟨q1, q2, _, q4, q5⟩ := lay.olds s' (fun k hk => hs k (by omega))
    exact ⟨q1, q2, q4, q5⟩
  · obtain ⟨k, k', a1, a2, a3⟩ := mov e hi
    exact ⟨k, k', by omega, by omega, a3⟩
  · obtain ⟨e, e1, e2, e3, e4⟩ := lay.out1 k j (by omega) hj
    exact ⟨e, e1, ein e e2, e4⟩
  · exact lay.out2 k e (by omega) (by rw [bl1 e hi]; omega) ((po.dn e).2 (.inr ((inU e).2 hi))) hf
  · rw [lay.edg 0 (by omega), nE]
    congr 1
    refine cnt_congr _ (fun e he => ?_)
    have h1 := hp e he
    cases hpe : p e with
    | true =>
      have := bl1 e (h1.1 hpe)
      rw [this]; rfl
    | false =>
      have hn : ¬ InC P (P.mn c) (P.sl c) e := fun hi => by rw [h1.2 hi] at hpe; cases hpe
      rw [blk0 e hn]; rfl
end
end Go.Proofs.Qxb6602148a
