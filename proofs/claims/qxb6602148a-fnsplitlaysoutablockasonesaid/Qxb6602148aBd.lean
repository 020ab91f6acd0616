/-
  PLAIN: 'divide' of a component that meets the model keeps it whole.
-/
import Derived.Test.Qxb6602148aBk
attribute [local go_sem] Go.Proofs.Qxb6602148a.yTo Go.Proofs.Qxb6602148a.yUpon
namespace Go.Proofs.Qxb6602148a
set_option linter.unusedVariables false
set_option linter.unusedSimpArgs false

section
variable {G : GR} {R : Nat → Nat → Bool} {nc : Nat} {cls : Nat → Nat} {P : PS} {c : Nat}

/-- There is an edge. -/
theorem Meet.bex {X : MD} (h : Meet X P) (c1 : c < P.nC) (c2 : P.mn c ≠ 0) : ∃ e, InC P (P.mn c) (P.sl c) e := by
  obtain ⟨e, e1, e2⟩ := cnt_pos (h.c1 c c1 c2).1
  unfold MD.inc at e2
  rw [Bool.and_eq_true] at e2
  exact ⟨e, (h.binC c1 c2).2 ⟨e1, e2.1, by simpa using e2.2⟩⟩
/-- Two edges, whatever is said of the ends of each edge. -/
theorem Meet.bspread (h : Meet (G.md R nc cls) P) (ok : G.Ok) (hm : MOk G R nc cls) (c1 : c < P.nC) (c2 : P.mn c ≠ 0) (S : Nat → Prop) (hS : ∀ p f q, Btw P (P.mn c) (P.sl c) p f q → S p → S q) {e e' u v u' v' : Nat} (hi : InC P (P.mn c) (P.sl c) e) (hi' : InC P (P.mn c) (P.sl c) e') (hu : Btw P (P.mn c) (P.sl c) u e v) (hu' : Btw P (P.mn c) (P.sl c) u' e' v') (h0 : S u) : S u' := by
  obtain ⟨he, ho, _⟩ := (h.binC c1 c2).1 hi
  obtain ⟨he', ho', _⟩ := (h.binC c1 c2).1 hi'
  have he : e < G.E := he
  have ho : G.ocb R e = true := ho
  have he' : e' < G.E := he'
  have ho' : G.ocb R e' = true := ho'
  have hne := ((hm.rs.ocb_iff ok he).1 ho).1
  have hne' := ((hm.rs.ocb_iff ok he').1 ho').1
  obtain ⟨f, t, q1, q2, q3, q4, q5, q6⟩ := h.bends c1 c2 hi
  obtain ⟨f', t', q1', q2', q3', q4', q5', q6'⟩ := h.bends c1 c2 hi'
  have q5 : P.node f = ((G.sr e : Nat) : Int) := q5
  have q6 : P.node t = ((G.ds e : Nat) : Int) := q6
  have q5' : P.node f' = ((G.sr e' : Nat) : Int) := q5'
  have q6' : P.node t' = ((G.ds e' : Nat) : Int) := q6'
  have swap : ∀ p x q, Btw P (P.mn c) (P.sl c) p x q → Btw P (P.mn c) (P.sl c) q x p := fun p x q hb => ⟨hb.1, hb.2.symm⟩
  have ft : Btw P (P.mn c) (P.sl c) f e t := ⟨hi, .inl ⟨q1, q2⟩⟩
  have ft' : Btw P (P.mn c) (P.sl c) f' e' t' := ⟨hi', .inl ⟨q1', q2'⟩⟩
  -- both ends, if one
  have both : ∀ x p q p' q', Btw P (P.mn c) (P.sl c) p x q → Btw P (P.mn c) (P.sl c) p' x q' → S p → S p' := by
    rintro x p q p' q' hb hb' hp
    have hq := hS p x q hb hp
    have : p' = p ∨ p' = q := by
      rcases hb.2 with ⟨b1, b2⟩ | ⟨b1, b2⟩ <;> rcases hb'.2 with ⟨b3, b4⟩ | ⟨b3, b4⟩
      · left; rw [b1] at b3; omega
      · right; rw [b2] at b4; omega
      · right; rw [b1] at b3; omega
      · left; rw [b2] at b4; omega
    rcases this with rfl | rfl
    · exact hp
    · exact hq
  have st : S t := both e u v t f hu (swap _ _ _ ft) h0
  -- the end of e' that is not at the node of f
  have fin : ∀ w z, Btw P (P.mn c) (P.sl c) w e' z → P.node w ≠ ((G.sr e : Nat) : Int) → S w := by
    intro w z hw hn
    have := h.btwo ok hm c1 c2 hi hi' (G.sr_lt he) (swap _ _ _ ft) hw (by rw [q6]; omega) hn
    exact this S st (fun p q hp ⟨_, _, x, hx⟩ => hS p x q hx hp)
  by_cases hn : P.node f' = ((G.sr e : Nat) : Int)
  · have : S t' := fin t' f' (swap _ _ _ ft') (by rw [q6']; rw [q5'] at hn; omega)
    exact both e' t' f' u' v' (swap _ _ _ ft') hu' this
  · exact both e' f' t' u' v' ft' hu' (fin f' t' ft' hn)

/-- 'divide' of the component lays it out as one. -/
theorem Meet.bdiv (h : Meet (G.md R nc cls) P) (ok : G.Ok) (hm : MOk G R nc cls) (hc : Calm P) (c1 : c < P.nC) (c2 : P.mn c ≠ 0) {PF : PS} (hE : DEndP P c (P.mn c) (P.sl c) PF) :
    ∃ L, DF P c (P.mn c) (P.sl c) L PF ∧ Meet (G.md R nc cls) PF ∧ L.nb = 1 ∧ ∀ e, L.blk e ≠ 0 ↔ InC P (P.mn c) (P.sl c) e := by
  obtain ⟨x, x1, x2, x3, x4, hD⟩ := hE
  have hgo := h.bgo ok hm hc c1 c2
  obtain ⟨lab, K, ln, ls, lk, L, hs, hf⟩ := hD.facts (by rw [x1, x2, x3, x4]; exact hgo)
  rw [x1, x3, x4] at hs
  rw [x1, x2, x3, x4] at hf
  have bnz : ∀ e, InC P (P.mn c) (P.sl c) e → L.blk e ≠ 0 := by
    intro e hi
    obtain ⟨f, t, q1, q2, _⟩ := h.bends c1 c2 hi
    exact (hs.blk_iff hgo hi q1 q2).2 (h.bstrong ok hm hc c1 c2 hi q1 q2)
  have lab2 : ∀ p f q, Btw P (P.mn c) (P.sl c) p f q → lab p = lab q := by
    rintro p f q ⟨hi, hb⟩
    rcases hb with ⟨b1, b2⟩ | ⟨b1, b2⟩
    · obtain ⟨k, _, k2, k3, _⟩ := hs.list hgo hi (bnz f hi) b1 b2
      rw [k2, k3]
    · obtain ⟨k, _, k2, k3, _⟩ := hs.list hgo hi (bnz f hi) b1 b2
      rw [k2, k3]
  have same : ∀ e e', InC P (P.mn c) (P.sl c) e → InC P (P.mn c) (P.sl c) e' → L.blk e = L.blk e' := by
    intro e e' hi hi'
    obtain ⟨f, t, q1, q2, _⟩ := h.bends c1 c2 hi
    obtain ⟨f', t', q1', q2', _⟩ := h.bends c1 c2 hi'
    obtain ⟨k, k1, k2, k3, k4⟩ := hs.list hgo hi (bnz e hi) q1 q2
    obtain ⟨k', k1', k2', k3', k4'⟩ := hs.list hgo hi' (bnz e' hi') q1' q2'
    have ll : lab f' = lk k := h.bspread ok hm c1 c2 (fun p => lab p = lk k) (fun p x q hb hp => by rw [← lab2 p x q hb]; exact hp) hi hi' ⟨hi, .inl ⟨q1, q2⟩⟩ ⟨hi', .inl ⟨q1', q2'⟩⟩ k2
    have ek : k = k' := hs.k2 k k' k1 k1' (by rw [← ll, k2'])
    subst ek
    rw [hs.eqv k e e' k1 k4 k4', hs.eqI_slot hgo k1]
    intro y u v u' v' ly lu lv lu' lv' b1 b2 n1 n2
    have slot : ∀ s, lab s = lk k → ∃ j, j < P.mn c ∧ P.sl c j = s := fun s hl => hs.l1 s (by rw [hl]; exact hs.k8 k k1)
    obtain ⟨j, j1, j2⟩ := slot y ly
    obtain ⟨_, _, _, vy, vy1, vy2⟩ := h.bmem c1 j1
    rw [j2] at vy1
    have ne : ∀ s, lab s = lk k → s ≠ y → P.node s ≠ ((vy : Nat) : Int) := fun s hl hn e => hn (h.bslot c1 (slot s hl) ⟨j, j1, j2⟩ (by rw [e, vy1]))
    have := h.btwo ok hm c1 c2 hi hi' (x := vy) vy2 b1 b2 (ne u lu n1) (ne u' lu' n2)
    have key := this (fun p => lab p = lk k ∧ Rch (Stp P (P.mn c) (P.sl c) lab (lk k) y) u p) ⟨lu, Rch.refl _ _⟩ (by
      rintro p q ⟨lp, rp⟩ ⟨m1, m2, f, hb⟩
      have lq : lab q = lk k := by rw [← lab2 p f q hb]; exact lp
      exact ⟨lq, rp.step ⟨fun e => m1 (by rw [e]; exact vy1), fun e => m2 (by rw [e]; exact vy1), lp, lq, f, hb⟩⟩)
    exact key.2
  have ein : ∀ e, L.blk e ≠ 0 → InC P (P.mn c) (P.sl c) e := fun e he => by
    obtain ⟨i, j, a, b, d⟩ := hf.ein e he
    exact ⟨i, j, a, b, d⟩
  have hmt : Meet (G.md R nc cls) PF := (h.brest hc c1 c2).meet hgo hf (fun e hi => ⟨fun _ => ((h.binC c1 c2).1 hi).2.1, fun _ => bnz e hi⟩) (fun e e' hi hi' ho ho' => by
    have e1 := ((h.binC c1 c2).1 hi').1
    exact ⟨fun _ => (h.bcls c1 c2 hi e1 ho').2 hi', fun _ => same e e' hi hi'⟩)
  refine ⟨L, hf, hmt, ?_, fun e => ⟨ein e, bnz e⟩⟩
  obtain ⟨e0, h0⟩ := h.bex c1 c2
  have b0 := bnz e0 h0
  have ble := (hf.emov e0 b0).1
  have all : ∀ β, 1 ≤ β → β ≤ L.nb → β = L.blk e0 := by
    intro β h1 h2
    obtain ⟨e, he⟩ := hf.full β h1 h2
    rw [← he]
    exact same e e0 (ein e (by omega)) h0
  have a1 := all 1 (by omega) (by omega)
  have a2 := all L.nb (by omega) (Nat.le_refl _)
  omega
end
end Go.Proofs.Qxb6602148a
