/-
  PLAIN: the search of 'divide', said of slots.
-/
import Derived.Test.Qxb6602148aDe
attribute [local go_sem] Go.Proofs.Qxb6602148a.yTo Go.Proofs.Qxb6602148a.yUpon
namespace Go.Proofs.Qxb6602148a
set_option linter.unusedVariables false
set_option linter.unusedSimpArgs false

/-- Edge e is one of the component's. -/
def InC (P : PS) (n : Nat) (sl : Nat → Nat) (e : Nat) : Prop := ∃ j k, j < n ∧ k < P.on (sl j) ∧ P.out (sl j) k = ((e : Nat) : Int)
theorem DGo.frS {P : PS} {c n : Nat} {sl : Nat → Nat} (hgo : DGo P c n sl) {e : Nat} (h : InC P n sl e) : ∃ j t : Nat, j < n ∧ e < P.nE ∧ P.fr e = ((sl j : Nat) : Int) ∧ (∃ j', j' < n ∧ sl j' = t) ∧ P.to e = ((t : Nat) : Int) := by
  obtain ⟨j, k, h1, h2, h3⟩ := h
  obtain ⟨e', t, a1, a2, a3, a4, a5, a6⟩ := hgo.edge j k h1 h2
  have : e' = e := by rw [h3] at a1; omega
  subst this
  exact ⟨j, t, h1, a2, a3, a5, a4⟩
/-- Edge f leads between the slots p and q, one way or the other. -/
def Btw (P : PS) (n : Nat) (sl : Nat → Nat) (p f q : Nat) : Prop := InC P n sl f ∧ ((P.fr f = ((p : Nat) : Int) ∧ P.to f = ((q : Nat) : Int)) ∨ (P.fr f = ((q : Nat) : Int) ∧ P.to f = ((p : Nat) : Int)))

theorem Rch.map {R R' : Nat → Nat → Prop} {g : Nat → Nat} (h : ∀ a b, R a b → R' (g a) (g b)) {a b : Nat} (hr : Rch R a b) : Rch R' (g a) (g b) :=
  hr (fun x => Rch R' (g a) (g x)) (Rch.refl _ _) (fun x y hx r => hx.step (h x y r))

section
variable {P : PS} {c n : Nat} {sl : Nat → Nat} {lab : Nat → Nat} {K : Nat} {ln : Nat → Nat} {ls : Nat → Nat → Nat} {lk : Nat → Nat} {L : LS}

theorem DGo.fre (hgo : DGo P c n sl) {e f t : Nat} (h : InC P n sl e) (hf : P.fr e = ((f : Nat) : Int)) (ht : P.to e = ((t : Nat) : Int)) : (∃ j, j < n ∧ sl j = f) ∧ (∃ j, j < n ∧ sl j = t) ∧ f ≠ t ∧ ∃ k, k < P.on f ∧ P.out f k = ((e : Nat) : Int) := by
  obtain ⟨j, k, h1, h2, h3⟩ := h
  obtain ⟨e', t', a1, a2, a3, a4, a5, a6⟩ := hgo.edge j k h1 h2
  have : e' = e := by rw [h3] at a1; omega
  subst this
  have e1 : sl j = f := by rw [hf] at a3; omega
  have e2 : t' = t := by rw [ht] at a4; omega
  subst e1
  subst e2
  exact ⟨⟨j, h1, rfl⟩, a5, fun e => a6 e.symm, k, h2, h3⟩
/-- A step of the search's graph is an edge. -/
theorem DGo.step (hgo : DGo P c n sl) (u v : Nat) : (dg P n sl).R u v ↔ ∃ e, InC P n sl e ∧ P.fr e = ((u : Nat) : Int) ∧ P.to e = ((v : Nat) : Int) := by
  constructor
  · rintro ⟨⟨j, j1, j2⟩, _, k, k1, k2⟩
    have k1 : k < P.on u := k1
    have k2 : (P.to (P.out u k).toNat).toNat = v := k2
    rw [← j2] at k1 k2
    obtain ⟨e, t, a1, a2, a3, a4, a5, a6⟩ := hgo.edge j k j1 k1
    rw [a1, Int.toNat_natCast, a4, Int.toNat_natCast] at k2
    exact ⟨e, ⟨j, k, j1, k1, a1⟩, by rw [a3, j2], by rw [a4, k2]⟩
  · rintro ⟨e, he, hf, ht⟩
    obtain ⟨h1, h2, h3, k, k1, k2⟩ := hgo.fre he hf ht
    refine ⟨h1, h2, k, k1, ?_⟩
    show (P.to (P.out u k).toNat).toNat = v
    rw [k2, Int.toNat_natCast, ht, Int.toNat_natCast]

/-- The edges between the slots of one list, by places and by slots. -/
theorem DSr.ii (hgo : DGo P c n sl) (h : DSr P n sl lab K ln ls lk L) {k : Nat} (hk : k < K) (a f b : Nat) : II P (ln k) (ls k) a f b ↔ a < ln k ∧ b < ln k ∧ Btw P n sl (ls k a) f (ls k b) := by
  have inn : ∀ a b, Inn P (ln k) (ls k) a f b ↔ a < ln k ∧ b < ln k ∧ InC P n sl f ∧ P.fr f = ((ls k a : Nat) : Int) ∧ P.to f = ((ls k b : Nat) : Int) := by
    intro a b
    constructor
    · rintro ⟨h1, h2, ⟨j, hj, hj2⟩, h4⟩
      obtain ⟨i, i1, i2⟩ := h.l1 (ls k a) (by rw [h.k4 k a hk h1]; exact h.k8 k hk)
      rw [← i2] at hj hj2
      have hi : InC P n sl f := ⟨i, j, i1, hj, hj2⟩
      obtain ⟨e', t', a1, a2, a3, a4, a5, a6⟩ := hgo.edge i j i1 hj
      have : e' = f := by rw [hj2] at a1; omega
      subst this
      exact ⟨h1, h2, hi, by rw [a3, i2], h4⟩
    · rintro ⟨h1, h2, h3, h4, h5⟩
      obtain ⟨_, _, _, q, q1, q2⟩ := hgo.fre h3 h4 h5
      exact ⟨h1, h2, ⟨q, q1, q2⟩, h5⟩
  unfold II Btw
  rw [inn a b, inn b a]
  constructor
  · rintro (⟨h1, h2, h3, h4, h5⟩ | ⟨h1, h2, h3, h4, h5⟩)
    · exact ⟨h1, h2, h3, .inl ⟨h4, h5⟩⟩
    · exact ⟨h2, h1, h3, .inr ⟨h4, h5⟩⟩
  · rintro ⟨h1, h2, h3, ⟨h4, h5⟩ | ⟨h4, h5⟩⟩
    · exact .inl ⟨h1, h2, h3, h4, h5⟩
    · exact .inr ⟨h2, h1, h3, h4, h5⟩

/-- An edge is moved if its ends reach each other. -/
theorem DSr.blk_iff (hgo : DGo P c n sl) (h : DSr P n sl lab K ln ls lk L) {e f t : Nat} (he : InC P n sl e) (hf : P.fr e = ((f : Nat) : Int)) (ht : P.to e = ((t : Nat) : Int)) : L.blk e ≠ 0 ↔ Rch (dg P n sl).R t f := by
  obtain ⟨⟨j, j1, j2⟩, ⟨j', j1', j2'⟩, h3, h4⟩ := hgo.fre he hf ht
  have lf : lab f ≠ 0 := by rw [← j2]; exact h.l0 j j1
  have lt : lab t ≠ 0 := by rw [← j2']; exact h.l0 j' j1'
  rw [h.blk e]
  constructor
  · rintro ⟨k, a, b, hk, hI⟩
    obtain ⟨a1, b1, _, hb⟩ := (h.ii hgo hk a e b).1 hI
    have la := h.k4 k a hk a1
    have lb := h.k4 k b hk b1
    have : lab f = lk k ∧ lab t = lk k := by
      rw [hf, ht] at hb
      rcases hb with ⟨e1, e2⟩ | ⟨e1, e2⟩
      · have e1 : f = ls k a := by omega
        have e2 : t = ls k b := by omega
        rw [e1, e2]; exact ⟨la, lb⟩
      · have e1 : f = ls k b := by omega
        have e2 : t = ls k a := by omega
        rw [e1, e2]; exact ⟨lb, la⟩
    exact ((h.l2 f t lf lt).1 (this.1.trans this.2.symm)).2
  · intro hr
    have st : Rch (dg P n sl).R f t := Rch.one ((hgo.step f t).2 ⟨e, he, hf, ht⟩)
    have ll := (h.l2 f t lf lt).2 ⟨st, hr⟩
    obtain ⟨k, hk, e1⟩ := h.k7 f t h3 lf ll
    obtain ⟨a, a1, a2⟩ := h.k6 k f hk e1.symm
    obtain ⟨b, b1, b2⟩ := h.k6 k t hk (by rw [← ll]; exact e1.symm)
    exact ⟨k, a, b, hk, (h.ii hgo hk a e b).2 ⟨a1, b1, he, .inl ⟨by rw [a2]; exact hf, by rw [b2]; exact ht⟩⟩⟩
/-- Which list it is in. -/
theorem DSr.list (hgo : DGo P c n sl) (h : DSr P n sl lab K ln ls lk L) {e f t : Nat} (he : InC P n sl e) (hb : L.blk e ≠ 0) (hf : P.fr e = ((f : Nat) : Int)) (ht : P.to e = ((t : Nat) : Int)) : ∃ k, k < K ∧ lab f = lk k ∧ lab t = lk k ∧ ∃ a b, II P (ln k) (ls k) a e b := by
  obtain ⟨⟨j, j1, j2⟩, ⟨j', j1', j2'⟩, h3, h4⟩ := hgo.fre he hf ht
  have lf : lab f ≠ 0 := by rw [← j2]; exact h.l0 j j1
  have lt : lab t ≠ 0 := by rw [← j2']; exact h.l0 j' j1'
  have st : Rch (dg P n sl).R f t := Rch.one ((hgo.step f t).2 ⟨e, he, hf, ht⟩)
  have ll := (h.l2 f t lf lt).2 ⟨st, (h.blk_iff hgo he hf ht).1 hb⟩
  obtain ⟨k, hk, e1⟩ := h.k7 f t h3 lf ll
  obtain ⟨a, a1, a2⟩ := h.k6 k f hk e1.symm
  obtain ⟨b, b1, b2⟩ := h.k6 k t hk (by rw [← ll]; exact e1.symm)
  exact ⟨k, hk, e1.symm, by rw [← ll]; exact e1.symm, a, b, (h.ii hgo hk a e b).2 ⟨a1, b1, he, .inl ⟨by rw [a2]; exact hf, by rw [b2]; exact ht⟩⟩⟩
/-- A step inside list k that leaves y alone. -/
def Stp (P : PS) (n : Nat) (sl lab : Nat → Nat) (l y p q : Nat) : Prop := p ≠ y ∧ q ≠ y ∧ lab p = l ∧ lab q = l ∧ ∃ f, Btw P n sl p f q
theorem DSr.conn_slot (hgo : DGo P c n sl) (h : DSr P n sl lab K ln ls lk L) {k : Nat} (hk : k < K) {u v y : Nat} (hu : lab u = lk k) (hv : lab v = lk k) (hy : lab y ≠ lk k) : Rch (Stp P n sl lab (lk k) y) u v := by
  obtain ⟨a, a1, a2⟩ := h.k6 k u hk hu
  obtain ⟨b, b1, b2⟩ := h.k6 k v hk hv
  rw [← a2, ← b2]
  refine Rch.map (g := ls k) ?_ (h.conn k a b hk a1 b1)
  rintro a b ⟨f, hf⟩
  obtain ⟨p1, p2, p3⟩ := (h.ii hgo hk a f b).1 hf
  have l1 := h.k4 k a hk p1
  have l2 := h.k4 k b hk p2
  exact ⟨fun e => hy (by rw [← e]; exact l1), fun e => hy (by rw [← e]; exact l2), l1, l2, f, p3⟩
/-- Edges of one list are parted by no node: said of slots. -/
theorem DSr.eqI_slot (hgo : DGo P c n sl) (h : DSr P n sl lab K ln ls lk L) {k : Nat} (hk : k < K) {e e' : Nat} : EqI (II P (ln k) (ls k)) e e' ↔ ∀ y u v u' v', lab y = lk k → lab u = lk k → lab v = lk k → lab u' = lk k → lab v' = lk k → Btw P n sl u e v → Btw P n sl u' e' v' → u ≠ y → u' ≠ y → Rch (Stp P n sl lab (lk k) y) u u' := by
  constructor
  · intro hE y u v u' v' ly lu lv lu' lv' h1 h2 n1 n2
    obtain ⟨x, x1, rfl⟩ := h.k6 k y hk ly
    obtain ⟨a, a1, rfl⟩ := h.k6 k u hk lu
    obtain ⟨b, b1, rfl⟩ := h.k6 k v hk lv
    obtain ⟨a', a1', rfl⟩ := h.k6 k u' hk lu'
    obtain ⟨b', b1', rfl⟩ := h.k6 k v' hk lv'
    refine Rch.map (g := ls k) ?_ (hE x a b a' b' ((h.ii hgo hk a e b).2 ⟨a1, b1, h1⟩) ((h.ii hgo hk a' e' b').2 ⟨a1', b1', h2⟩) (fun e => n1 (by rw [e])) (fun e => n2 (by rw [e])))
    rintro p q ⟨m1, m2, f, hf⟩
    obtain ⟨p1, p2, p3⟩ := (h.ii hgo hk p f q).1 hf
    exact ⟨fun e => m1 (h.k5 k p x hk p1 x1 e), fun e => m2 (h.k5 k q x hk p2 x1 e), h.k4 k p hk p1, h.k4 k q hk p2, f, p3⟩
  · intro hS x a b a' b' h1 h2 n1 n2
    obtain ⟨a1, b1, h3⟩ := (h.ii hgo hk a e b).1 h1
    obtain ⟨a1', b1', h3'⟩ := (h.ii hgo hk a' e' b').1 h2
    rcases Nat.lt_or_ge x (ln k) with hx | hx
    · have := hS (ls k x) (ls k a) (ls k b) (ls k a') (ls k b') (h.k4 k x hk hx) (h.k4 k a hk a1) (h.k4 k b hk b1) (h.k4 k a' hk a1') (h.k4 k b' hk b1') h3 h3' (fun e => n1 (h.k5 k a x hk a1 hx e)) (fun e => n2 (h.k5 k a' x hk a1' hx e))
      have key := this (fun p => ∃ i, i < ln k ∧ ls k i = p ∧ Rch (fun u v => u ≠ x ∧ v ≠ x ∧ ∃ f, II P (ln k) (ls k) u f v) a i) ⟨a, a1, rfl, Rch.refl _ _⟩ (by
        rintro p q ⟨i, i1, rfl, i3⟩ ⟨m1, m2, m3, m4, f, hf⟩
        obtain ⟨j, j1, rfl⟩ := h.k6 k q hk m4
        exact ⟨j, j1, rfl, i3.step ⟨fun e => m1 (by rw [e]), fun e => m2 (by rw [e]), f, (h.ii hgo hk i f j).2 ⟨i1, j1, hf⟩⟩⟩)
      obtain ⟨i, i1, i2, i3⟩ := key
      rw [← h.k5 k i a' hk i1 a1' i2]; exact i3
    · refine (h.conn k a a' hk a1 a1').mono ?_
      rintro p q ⟨f, hf⟩
      obtain ⟨p1, p2, _⟩ := (h.ii hgo hk p f q).1 hf
      exact ⟨by omega, by omega, f, hf⟩
end
end Go.Proofs.Qxb6602148a
