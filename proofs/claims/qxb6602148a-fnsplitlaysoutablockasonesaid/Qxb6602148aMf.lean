/-
  PLAIN: 'newPartition' meets the model.
-/
import Derived.Test.Qxb6602148aMe
import Derived.Test.Qxb6602148aMs
attribute [local go_sem] Go.Proofs.Qxb6602148a.yTo Go.Proofs.Qxb6602148a.yUpon
namespace Go.Proofs.Qxb6602148a
set_option linter.unusedVariables false
set_option linter.unusedSimpArgs false

def GR.md (G : GR) (R : Nat → Nat → Bool) (nc : Nat) (cls : Nat → Nat) : MD := ⟨G.n, G.E, nc, G.sr, G.ds, cls, G.ocb R⟩
/-- The classes are those of the model. -/
structure MOk (G : GR) (R : Nat → Nat → Bool) (nc : Nat) (cls : Nat → Nat) : Prop where
  rs : RS G G.n R
  cl : ∀ e, e < G.E → G.ocb R e = true → cls e < nc
  eqv : ∀ e e', e < G.E → e' < G.E → G.ocb R e = true → G.ocb R e' = true → (cls e = cls e' ↔ Rl G R G.n e e')
  ncE : nc ≤ G.E

section
variable {G : GR} {R : Nat → Nat → Bool} {nc : Nat} {cls : Nat → Nat} {P : PS}

theorem RS.ocb_iff (h : RS G G.n R) (ok : G.Ok) {e : Nat} (he : e < G.E) : G.ocb R e = true ↔ G.sr e ≠ G.ds e ∧ Rch G.adj (G.ds e) (G.sr e) := by
  unfold GR.ocb
  by_cases hs : G.sr e = G.ds e
  · rw [if_pos hs]
    exact ⟨fun h => absurd h (by simp), fun h => absurd hs h.1⟩
  · rw [if_neg hs, h.old _ _ (G.ds_lt ok he) (G.sr_lt he)]
    exact ⟨fun h => ⟨hs, h⟩, fun h => h.2⟩

/-- The edges of the first component: those that are no loops. -/
theorem NP.inC (h : NP G G.n 0 G.n P) (ok : G.Ok) {e : Nat} (he : e < G.E) : (InC P G.n (fun s => s) e ↔ G.sr e ≠ G.ds e) ∧ (G.sr e ≠ G.ds e → P.fr e = ((G.sr e : Nat) : Int) ∧ P.to e = ((G.ds e : Nat) : Int)) ∧ (G.sr e = G.ds e → P.fr e = -1 ∧ P.to e = -1) := by
  obtain ⟨v, k, hv, hk, rfl⟩ := G.at he
  rw [G.sr_at hv hk, G.ds_at hv hk]
  refine ⟨⟨?_, fun hn => ?_⟩, fun hn => h.e2 v k (.inl hv) hk (fun e => hn e.symm), fun hn => h.e1 v k (.inl hv) hk hn.symm⟩
  · rintro ⟨j, q, j1, j2, j3⟩ hn
    obtain ⟨r, r1, _, r3, r4⟩ := h.o1 j q j1 j2
    rw [j3] at r4
    have := G.fst_inj hk r1 (by omega)
    obtain ⟨rfl, rfl⟩ := this
    exact r3 hn.symm
  · obtain ⟨j, j1, j2⟩ := h.o2 v k hv hk (.inl hv) (fun e => hn e.symm)
    exact ⟨v, j, hv, j1, j2⟩
theorem inC_lt (h : NP G G.n 0 G.n P) {e : Nat} (hi : InC P G.n (fun s => s) e) : e < G.E := by
  obtain ⟨j, q, j1, j2, j3⟩ := hi
  obtain ⟨r, r1, _, r3, r4⟩ := h.o1 j q j1 j2
  rw [j3] at r4
  have := G.fst_lt j1 r1
  omega

theorem NP.rest (h : NP G G.n 0 G.n P) (ok : G.Ok) (hm : MOk G R nc cls) : Rest (G.md R nc cls) P 0 G.n (fun s => s) := by
  have onl : ∀ e, e < G.E → G.ocb R e = true → InC P G.n (fun s => s) e := fun e he ho => (h.inC ok he).1.2 ((hm.rs.ocb_iff ok he).1 ho).1
  refine ⟨h.nE, fun i hi => by rw [h.nF] at hi; omega, fun s hs hc => ?_, fun s hs hc => .inl ⟨s, by rw [h.nS] at hs; exact hs, rfl⟩, fun j hj => ⟨j, h.node j hj, hj⟩, fun j j' hj hj' e => ?_, fun e he => ?_, fun e f t hi hf ht => ?_, hm.cl, fun e e' he he' ho ho' hn => absurd (onl e he ho) hn, fun e e' he he' ho ho' hi hn => absurd (onl e' he' ho') hn, fun c' hc hn => ?_, fun c' j hc hn => ?_, fun c' j j' hc hn => ?_, fun s k hs hn => ?_, fun s e hs hn => ?_, fun s k k' hs hn => ?_⟩
  · rw [h.comp s (by rw [h.nS] at hs; exact hs)] at hc; omega
  · have e : P.node j = P.node j' := e
    rw [h.node j hj, h.node j' hj'] at e; omega
  · by_cases hs : G.sr e = G.ds e
    · refine .inr (.inl ⟨?_, (h.inC ok he).2.2 hs⟩)
      show G.ocb R e = false
      unfold GR.ocb; rw [if_pos hs]
    · exact .inl ((h.inC ok he).1.2 hs)
  · have he := inC_lt h hi
    obtain ⟨q1, q2, _⟩ := h.inC ok he
    obtain ⟨f1, t1⟩ := q2 (q1.1 hi)
    have e1 : f = G.sr e := by rw [hf] at f1; omega
    have e2 : t = G.ds e := by rw [ht] at t1; omega
    rw [e1, e2]
    exact ⟨h.node _ (G.sr_lt he), h.node _ (G.ds_lt ok he)⟩
  · rw [h.nC] at hc; omega
  · rw [h.nC] at hc; omega
  · rw [h.nC] at hc; omega
  · exact absurd rfl (hn s (by rw [h.nS] at hs; exact hs))
  · exact absurd rfl (hn s (by rw [h.nS] at hs; exact hs))
  · exact absurd rfl (hn s (by rw [h.nS] at hs; exact hs))

/-- The search's graph is the graph without loops. -/
theorem NP.rch (h : NP G G.n 0 G.n P) (ok : G.Ok) (a b : Nat) : Rch (dg P G.n (fun s => s)).R a b ↔ Rch G.adj a b := by
  have hgo := h.go ok
  constructor
  · refine Rch.mono (fun u v r => ?_)
    obtain ⟨e, hi, hf, ht⟩ := (hgo.step u v).1 r
    have he := inC_lt h hi
    obtain ⟨q1, q2, _⟩ := h.inC ok he
    obtain ⟨f1, t1⟩ := q2 (q1.1 hi)
    exact ⟨e, he, by rw [hf] at f1; omega, by rw [ht] at t1; omega⟩
  · intro hr
    refine hr (fun x => Rch (dg P G.n (fun s => s)).R a x) (Rch.refl _ _) (fun u v hu r => ?_)
    obtain ⟨e, he, hf, ht⟩ := r
    by_cases hs : G.sr e = G.ds e
    · rw [← ht, ← hs, hf]; exact hu
    · obtain ⟨q1, q2, _⟩ := h.inC ok he
      obtain ⟨f1, t1⟩ := q2 hs
      exact hu.step ((hgo.step u v).2 ⟨e, q1.2 hs, by rw [f1, hf], by rw [t1, ht]⟩)

theorem NP.meet (h : NP G G.n 0 G.n P) (ok : G.Ok) (hm : MOk G R nc cls) {PF : PS} (hE : DEndP P 0 G.n (fun s => s) PF) : Meet (G.md R nc cls) PF ∧ ∃ L, DF P 0 G.n (fun s => s) L PF := by
  obtain ⟨x, x1, x2, x3, x4, hD⟩ := hE
  have hgo := h.go ok
  obtain ⟨lab, K, ln, ls, lk, L, hs, hf⟩ := hD.facts (by rw [x1, x2, x3, x4]; exact hgo)
  rw [x1, x3, x4] at hs
  rw [x1, x2, x3, x4] at hf
  have H1 : ∀ e, InC P G.n (fun s => s) e → (L.blk e ≠ 0 ↔ G.ocb R e = true) := by
    intro e hi
    have he := inC_lt h hi
    obtain ⟨q1, q2, _⟩ := h.inC ok he
    have hne := q1.1 hi
    obtain ⟨f1, t1⟩ := q2 hne
    rw [hs.blk_iff hgo hi f1 t1, h.rch ok, hm.rs.ocb_iff ok he]
    exact ⟨fun h => ⟨hne, h⟩, fun h => h.2⟩
  -- an edge on a cycle, and its label
  have onl : ∀ e, e < G.E → G.ocb R e = true → InC P G.n (fun s => s) e ∧ P.fr e = ((G.sr e : Nat) : Int) ∧ P.to e = ((G.ds e : Nat) : Int) ∧ lab (G.sr e) = lab (G.ds e) := by
    intro e he ho
    obtain ⟨q1, q2, _⟩ := h.inC ok he
    have hne := ((hm.rs.ocb_iff ok he).1 ho).1
    obtain ⟨f1, t1⟩ := q2 hne
    have hi := q1.2 hne
    obtain ⟨k, k1, k2, k3, _⟩ := hs.list hgo hi ((H1 e hi).2 ho) f1 t1
    exact ⟨hi, f1, t1, by rw [k2, k3]⟩
  refine ⟨(h.rest ok hm).meet hgo hf H1 (fun e e' hi hi' ho ho' => ?_), L, hf⟩
  have ho : G.ocb R e = true := ho
  have ho' : G.ocb R e' = true := ho'
  have he := inC_lt h hi
  have he' := inC_lt h hi'
  obtain ⟨_, f1, t1, l1⟩ := onl e he ho
  obtain ⟨_, f1', t1', l1'⟩ := onl e' he' ho'
  have b := (H1 e hi).2 ho
  have b' := (H1 e' hi').2 ho'
  obtain ⟨k, k1, k2, k3, k4⟩ := hs.list hgo hi b f1 t1
  obtain ⟨k', k1', k2', k3', k4'⟩ := hs.list hgo hi' b' f1' t1'
  show _ ↔ cls e = cls e'
  rw [hm.eqv e e' he he' ho ho']
  have ls0 : lab (G.sr e) ≠ 0 := by rw [k2]; exact hs.k8 k k1
  have ls0' : lab (G.sr e') ≠ 0 := by rw [k2']; exact hs.k8 k' k1'
  by_cases hk : k = k'
  · subst hk
    rw [hs.eqv k e e' k1 k4 k4', hs.eqI_slot hgo k1]
    -- a step of the model from a node of the list
    have ax : ∀ y p q, lab p = lk k → G.AXe R y G.E p q → Stp P G.n (fun s => s) lab (lk k) y p q := by
      rintro y p q lp ⟨f, f1, f2, f3, f4, f5⟩
      obtain ⟨gi, gf, gt, gl⟩ := onl f f1 f2
      rcases f5 with ⟨rfl, rfl⟩ | ⟨rfl, rfl⟩
      · exact ⟨f3, f4, lp, by rw [← gl]; exact lp, f, gi, .inl ⟨gf, gt⟩⟩
      · exact ⟨f4, f3, lp, by rw [gl]; exact lp, f, gi, .inr ⟨gf, gt⟩⟩
    have sx : ∀ y p q, Stp P G.n (fun s => s) lab (lk k) y p q → G.AXe R y G.E p q := by
      rintro y p q ⟨n1, n2, l1, l2, f, hi, hb⟩
      have hl := inC_lt h hi
      obtain ⟨q1, q2, _⟩ := h.inC ok hl
      obtain ⟨gf, gt⟩ := q2 (q1.1 hi)
      have hlab : lab (G.sr f) = lab (G.ds f) ∧ (G.sr f ≠ y ∧ G.ds f ≠ y) ∧ ((G.sr f = p ∧ G.ds f = q) ∨ (G.sr f = q ∧ G.ds f = p)) := by
        rcases hb with ⟨b1, b2⟩ | ⟨b1, b2⟩
        · have e1 : G.sr f = p := by rw [b1] at gf; omega
          have e2 : G.ds f = q := by rw [b2] at gt; omega
          rw [e1, e2]; exact ⟨l1.trans l2.symm, ⟨n1, n2⟩, .inl ⟨rfl, rfl⟩⟩
        · have e1 : G.sr f = q := by rw [b1] at gf; omega
          have e2 : G.ds f = p := by rw [b2] at gt; omega
          rw [e1, e2]; exact ⟨l2.trans l1.symm, ⟨n2, n1⟩, .inr ⟨rfl, rfl⟩⟩
      refine ⟨f, hl, ?_, hlab.2.1.1, hlab.2.1.2, hlab.2.2⟩
      have l0 : lab (G.sr f) ≠ 0 := hs.l0 (G.sr f) (G.sr_lt hl)
      have l0' : lab (G.ds f) ≠ 0 := hs.l0 (G.ds f) (G.ds_lt ok hl)
      have := ((hs.l2 _ _ l0 l0').1 hlab.1).2
      exact (H1 f hi).1 ((hs.blk_iff hgo hi gf gt).2 this)
    have lf : lab (G.sr e') = lk k := k2'
    have enl : ∀ y f, f < G.E → G.ocb R f = true → lab (G.sr f) = lk k → lab (G.en y f) = lk k ∧ G.en y f ≠ y ∧ (∃ v, lab v = lk k ∧ Btw P G.n (fun s => s) (G.en y f) f v) := by
      intro y f hl hof hlf
      obtain ⟨gi, gf, gt, gl⟩ := onl f hl hof
      have hne := ((hm.rs.ocb_iff ok hl).1 hof).1
      unfold GR.en
      by_cases hy : G.sr f = y
      · rw [if_pos hy]
        exact ⟨by rw [← gl]; exact hlf, fun e => hne (by rw [hy, e]), G.sr f, hlf, gi, .inr ⟨gf, gt⟩⟩
      · rw [if_neg hy]
        exact ⟨hlf, hy, G.ds f, by rw [← gl]; exact hlf, gi, .inl ⟨gf, gt⟩⟩
    constructor
    · intro hS
      refine ⟨?_, fun y hy => ?_⟩
      · have hh := (hs.l2 _ _ ls0 ls0').1 (by rw [k2, lf])
        exact ⟨(h.rch ok _ _).1 hh.1, (h.rch ok _ _).1 hh.2⟩
      · obtain ⟨a1, a2, v, a3, a4⟩ := enl y e he ho k2
        obtain ⟨a1', a2', v', a3', a4'⟩ := enl y e' he' ho' lf
        by_cases ly : lab y = lk k
        · exact (hS y _ v _ v' ly a1 a3 a1' a3' a4 a4' a2 a2').mono (sx y)
        · exact (hs.conn_slot hgo k1 a1 a1' ly).mono (sx y)
    · rintro ⟨_, hx⟩ y u v u' v' ly lu lv lu' lv' h1 h2 n1 n2
      have hyn : y < G.n := by
        obtain ⟨j, j1, j2⟩ := hs.l1 y (by rw [ly]; exact hs.k8 k k1)
        have j2 : j = y := j2
        omega
      -- from an end to the end that counts
      have toen : ∀ f u v, f < G.E → G.ocb R f = true → lab u = lk k → lab v = lk k → Btw P G.n (fun s => s) u f v → u ≠ y → Rch (Stp P G.n (fun s => s) lab (lk k) y) u (G.en y f) := by
        intro f u v hl hof lu lv hb nu
        obtain ⟨gi, gf, gt, gl⟩ := onl f hl hof
        have : (G.sr f = u ∧ G.ds f = v) ∨ (G.sr f = v ∧ G.ds f = u) := by
          rcases hb.2 with ⟨b1, b2⟩ | ⟨b1, b2⟩
          · exact .inl ⟨by rw [b1] at gf; omega, by rw [b2] at gt; omega⟩
          · exact .inr ⟨by rw [b1] at gf; omega, by rw [b2] at gt; omega⟩
        unfold GR.en
        rcases this with ⟨e1, e2⟩ | ⟨e1, e2⟩
        · rw [if_neg (by rw [e1]; exact nu), e1]; exact Rch.refl _ _
        · by_cases hy : G.sr f = y
          · rw [if_pos hy, e2]; exact Rch.refl _ _
          · rw [if_neg hy, e1]
            exact Rch.one ⟨nu, by rw [← e1]; exact hy, lu, lv, f, hb⟩
      have stsym : ∀ p q, Stp P G.n (fun s => s) lab (lk k) y p q → Stp P G.n (fun s => s) lab (lk k) y q p := by
        rintro p q ⟨m1, m2, m3, m4, f, hf1, hf2⟩
        exact ⟨m2, m1, m4, m3, f, hf1, hf2.symm⟩
      have r1 := toen e u v he ho lu lv h1 n1
      have r2 := toen e' u' v' he' ho' lu' lv' h2 n2
      obtain ⟨a1, _⟩ := enl y e he ho k2
      have r3 : Rch (Stp P G.n (fun s => s) lab (lk k) y) (G.en y e) (G.en y e') := by
        have := hx y hyn (fun p => lab p = lk k ∧ Rch (Stp P G.n (fun s => s) lab (lk k) y) (G.en y e) p) ⟨a1, Rch.refl _ _⟩ (by
          rintro p q ⟨lp, rp⟩ r
          have := ax y p q lp r
          exact ⟨this.2.2.2.1, rp.step this⟩)
        exact this.2
      exact (r1.trans r3).trans (Rch.symm stsym r2)
  · constructor
    · intro hb
      exact absurd hb (hs.dif k k' e e' k1 k1' hk k4 k4')
    · rintro ⟨hsc, _⟩
      exfalso
      have := (hs.l2 _ _ ls0 ls0').2 ⟨(h.rch ok _ _).2 hsc.1, (h.rch ok _ _).2 hsc.2⟩
      exact hk (hs.k2 k k' k1 k1' (by rw [← k2, ← k2', this]))
end
end Go.Proofs.Qxb6602148a
