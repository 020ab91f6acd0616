/-
  'split' of a whole block: how many components there are.
-/
import Derived.Test.Qxb6602148aBs
attribute [local go_sem] Go.Proofs.Qxb6602148a.yTo Go.Proofs.Qxb6602148a.yUpon
namespace Go.Proofs.Qxb6602148a
open Go.RowKit
set_option linter.unusedVariables false
set_option linter.unusedSimpArgs false
section
variable {G : GR} {R : Nat → Nat → Bool} {nc : Nat} {cls : Nat → Nat} {P : PS} {c : Nat} {str : Nat → Nat}
theorem Meet.bnb (h : Meet (G.md R nc cls) P) (ok : G.Ok) (hm : MOk G R nc cls) (hc : Calm P) (c1 : c < P.nC) (c2 : P.mn c ≠ 0) (ho : Ord P c str) {S : SS} (hS : SEnd P LS.none (P.mn c) str S) : S.P.nC = P.nC + (1 - P.nU) := by
  have hgo := h.bgo ok hm hc c1 c2
  have all := fun {j : Nat} (hj : j < P.mn c) => ho.all hgo.inj hj
  obtain ⟨U, s, uok, hN, hU, po, mk⟩ := hS
  have lay := po.lay
  have nE : P.nE = G.E := h.nE
  -- the edges that take part
  have inn : ∀ a e b, Inn P (P.mn c) str a e b → InC P (P.mn c) (P.sl c) e := by
    rintro a e b ⟨h1, h2, ⟨j, hj, hj2⟩, _⟩
    obtain ⟨q, q1, q2⟩ := ho.mem a h1
    exact ⟨q, j, q1, by rw [q2]; exact hj, by rw [q2]; exact hj2⟩
  have btw : ∀ p e q, Btw P (P.mn c) (P.sl c) p e q → ∃ a b, a < P.mn c ∧ b < P.mn c ∧ str a = p ∧ str b = q ∧ U.inc a e b := by
    rintro p e q ⟨hif, hb⟩
    obtain ⟨fx, tx, y1, y2, ⟨jf, jf1, jf2⟩, ⟨jt, jt1, jt2⟩, _, _⟩ := h.bends c1 c2 hif
    obtain ⟨_, _, _, k, k1, k2⟩ := hgo.fre hif y1 y2
    obtain ⟨a, a1, a2⟩ := all jf1
    obtain ⟨b, b1, b2⟩ := all jt1
    rw [jf2] at a2
    rw [jt2] at b2
    have hi : Inn P (P.mn c) str a e b := ⟨a1, b1, ⟨k, by rw [a2]; exact k1, by rw [a2]; exact k2⟩, by rw [y2, b2]⟩
    rcases hb with ⟨b3, b4⟩ | ⟨b3, b4⟩
    · exact ⟨a, b, a1, b1, by rw [a2]; rw [b3] at y1; omega, by rw [b2]; rw [b4] at y2; omega, (hU a e b).2 (.inl hi)⟩
    · exact ⟨b, a, b1, a1, by rw [b2]; rw [b4] at y2; omega, by rw [a2]; rw [b3] at y1; omega, (hU b e a).2 (.inr hi)⟩
  have inU : ∀ e, (∃ a b, U.inc a e b) ↔ InC P (P.mn c) (P.sl c) e := by
    intro e
    constructor
    · rintro ⟨a, b, hi⟩
      rcases (hU a e b).1 hi with h1 | h1
      · exact inn a e b h1
      · exact inn b e a h1
    · intro hi
      obtain ⟨f, t, q1, q2, _⟩ := h.bends c1 c2 hi
      obtain ⟨a, b, _, _, _, _, hh⟩ := btw f e t ⟨hi, .inl ⟨q1, q2⟩⟩
      exact ⟨a, b, hh⟩
  have incB : ∀ a e b, U.inc a e b → a < P.mn c ∧ b < P.mn c ∧ Btw P (P.mn c) (P.sl c) (str a) e (str b) := by
    have one : ∀ a e b, Inn P (P.mn c) str a e b → a < P.mn c ∧ b < P.mn c ∧ Btw P (P.mn c) (P.sl c) (str a) e (str b) := by
      rintro a e b hi
      have hif := inn a e b hi
      obtain ⟨h1, h2, ⟨j, hj, hj2⟩, h4⟩ := hi
      obtain ⟨q, q1, q2⟩ := ho.mem a h1
      rw [← q2] at hj hj2
      obtain ⟨e', t', a1, a2, a3, _⟩ := hgo.edge q j q1 hj
      have : e' = e := by rw [hj2] at a1; omega
      subst this
      exact ⟨h1, h2, hif, .inl ⟨by rw [a3, q2], h4⟩⟩
    intro a e b hi
    rcases (hU a e b).1 hi with h1 | h1
    · exact one a e b h1
    · obtain ⟨b1, b2, b3, b4⟩ := one b e a h1
      exact ⟨b2, b1, b3, b4.symm⟩
  -- no node parts them
  have eqv : ∀ e e', InC P (P.mn c) (P.sl c) e → InC P (P.mn c) (P.sl c) e' → U.Eqv e e' := by
    intro e e' hi hi' x a b a' b' i1 i2 n1 n2
    obtain ⟨p1, p2, p3⟩ := incB a e b i1
    obtain ⟨p1', p2', p3'⟩ := incB a' e' b' i2
    rcases Nat.lt_or_ge x (P.mn c) with hx | hx
    · obtain ⟨jx, jx1, jx2⟩ := ho.mem x hx
      obtain ⟨_, _, _, vx, vx1, vx2⟩ := h.bmem c1 jx1
      rw [jx2] at vx1
      have ne : ∀ i, i < P.mn c → i ≠ x → P.node (str i) ≠ ((vx : Nat) : Int) := fun i hi' hn e => hn (ho.inj i x hi' hx (h.bslot c1 (ho.mem i hi') ⟨jx, jx1, jx2⟩ (by rw [e, vx1])))
      have := h.btwo ok hm c1 c2 hi hi' (x := vx) vx2 p3 p3' (ne a p1 n1) (ne a' p1' n2)
      have key := this (fun p => ∃ i, i < P.mn c ∧ str i = p ∧ U.Cn x a i) ⟨a, p1, rfl, Rch.refl _ _⟩ (by
        rintro p q ⟨i, i1, rfl, i3⟩ ⟨m1, m2, f, hb⟩
        obtain ⟨a2, b2, a3, b3, a4, b4, hinc⟩ := btw (str i) f q hb
        have e1 : a2 = i := ho.inj a2 i a3 i1 a4
        subst e1
        have nx : b2 ≠ x := fun e => m2 (by rw [← b4, e]; exact vx1)
        have nx' : a2 ≠ x := fun e => m1 (by rw [e]; exact vx1)
        exact ⟨b2, b3, b4, i3.step ⟨nx', nx, f, hinc⟩⟩)
      obtain ⟨i, i1', i2', i3'⟩ := key
      rw [← ho.inj i a' i1' p1' i2']; exact i3'
    · have key := h.bspread ok hm c1 c2 (fun p => ∃ i, i < P.mn c ∧ str i = p ∧ U.Cn x a i) (by
        rintro p f q hb ⟨i, i1, rfl, i3⟩
        obtain ⟨a2, b2, a3, b3, a4, b4, hinc⟩ := btw (str i) f q hb
        have e1 : a2 = i := ho.inj a2 i a3 i1 a4
        subst e1
        exact ⟨b2, b3, b4, i3.step ⟨by omega, by omega, f, hinc⟩⟩) hi hi' p3 p3' ⟨a, p1, rfl, Rch.refl _ _⟩
      obtain ⟨i, i1', i2', i3'⟩ := key
      rw [← ho.inj i a' i1' p1' i2']; exact i3'
  have blk1 : ∀ e, InC P (P.mn c) (P.sl c) e → S.L.blk e = s.blk e ∧ 1 ≤ s.blk e ∧ s.blk e ≤ s.nb := by
    intro e hi
    have := po.blk e ((inU e).2 hi)
    have h0 : LS.none.nb = 0 := rfl
    rw [h0, Nat.zero_add] at this
    exact this
  have blk0 : ∀ e, ¬ InC P (P.mn c) (P.sl c) e → S.L.blk e = 0 := fun e hn => po.blko e (fun hh => hn ((inU e).1 hh))
  have nbs : S.L.nb = s.nb := by rw [po.nb]; show 0 + s.nb = s.nb; omega
  obtain ⟨e0, h0⟩ := h.bex c1 c2
  have b0 := blk1 e0 h0
  have allb : ∀ e, InC P (P.mn c) (P.sl c) e → s.blk e = s.blk e0 := fun e hi => (po.eqv e e0 ((inU e).2 hi) ((inU e0).2 h0)).2 (eqv e e0 hi h0)
  have ein : ∀ e, S.L.blk e ≠ 0 → InC P (P.mn c) (P.sl c) e := fun e he => Classical.byContradiction fun hn => he (blk0 e hn)
  have nb1 : S.L.nb = 1 := by
    have a1 : ∀ β, 1 ≤ β → β ≤ S.L.nb → β = s.blk e0 := by
      intro β h1 h2
      obtain ⟨e, he⟩ := po.full β h1 h2
      have hi := ein e (by omega)
      rw [← he, (blk1 e hi).1, allb e hi]
    have := a1 1 (by omega) (by omega)
    have := a1 S.L.nb (by omega) (Nat.le_refl _)
    omega
  rw [lay.nC, nb1]
end
end Go.Proofs.Qxb6602148a
