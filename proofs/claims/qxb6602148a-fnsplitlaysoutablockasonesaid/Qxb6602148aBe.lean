/-
  PLAIN: every graph has a model; what the second law reads behind 'divide'.
-/
import Derived.Test.Qxb6602148aBd
attribute [local go_sem] Go.Proofs.Qxb6602148a.yTo Go.Proofs.Qxb6602148a.yUpon
namespace Go.Proofs.Qxb6602148a
set_option linter.unusedVariables false
set_option linter.unusedSimpArgs false

theorem least {Q : Nat → Prop} : ∀ n, Q n → ∃ m, Q m ∧ ∀ m', m' < m → ¬ Q m' := by
  intro n
  induction n using Nat.strongRecOn with
  | ind n ih =>
    intro h
    by_cases hex : ∃ m', m' < n ∧ Q m'
    · obtain ⟨m', h1, h2⟩ := hex
      exact ih m' h1 h2
    · exact ⟨n, h, fun m' h1 h2 => hex ⟨m', h1, h2⟩⟩
/-- Every graph has a model. -/
theorem GR.Ok.mok {G : GR} (ok : G.Ok) : ∃ R nc cls, MOk G R nc cls := by
  let R : Nat → Nat → Bool := fun a b => @decide (a < G.n ∧ Rch G.adj a b) (Classical.propDecidable _)
  have rs : RS G G.n R := by
    refine ⟨fun a b ha hb => ?_, fun a b ha => ?_⟩
    · show @decide _ (Classical.propDecidable _) = true ↔ _
      rw [@decide_eq_true_iff _ (Classical.propDecidable _)]
      exact ⟨fun h => h.2, fun h => ⟨ha, h⟩⟩
    · show @decide _ (Classical.propDecidable _) = false
      rw [@decide_eq_false_iff_not _ (Classical.propDecidable _)]
      rintro ⟨h, _⟩; omega
  have ex : ∀ e, ∃ m, e < G.E → G.ocb R e = true → (m < G.E ∧ G.ocb R m = true ∧ Rl G R G.n e m) ∧ ∀ m', m' < m → ¬ (m' < G.E ∧ G.ocb R m' = true ∧ Rl G R G.n e m') := by
    intro e
    by_cases h : e < G.E ∧ G.ocb R e = true
    · obtain ⟨m, h1, h2⟩ := least (Q := fun m => m < G.E ∧ G.ocb R m = true ∧ Rl G R G.n e m) e ⟨h.1, h.2, Rl.refl e⟩
      exact ⟨m, fun _ _ => ⟨h1, h2⟩⟩
    · exact ⟨0, fun h1 h2 => absurd ⟨h1, h2⟩ h⟩
  obtain ⟨cls, hcls⟩ := Classical.axiomOfChoice ex
  refine ⟨R, G.E, cls, rs, fun e he ho => (hcls e he ho).1.1, fun e e' he he' ho ho' => ?_, Nat.le_refl _⟩
  obtain ⟨⟨a1, a2, a3⟩, a4⟩ := hcls e he ho
  obtain ⟨⟨b1, b2, b3⟩, b4⟩ := hcls e' he' ho'
  constructor
  · intro h
    rw [← h] at b3
    exact a3.trans b3.symm
  · intro h
    rcases Nat.lt_trichotomy (cls e) (cls e') with hlt | heq | hgt
    · exact absurd ⟨a1, a2, h.symm.trans a3⟩ (b4 _ hlt)
    · exact heq
    · exact absurd ⟨b1, b2, h.trans b3⟩ (a4 _ hgt)

section
variable {G : GR} {R : Nat → Nat → Bool} {nc : Nat} {cls : Nat → Nat} {P P2 : PS} {c : Nat} {L : LS}
/-- What is read behind 'divide'. -/
structure DvP (E : Nat) (P P2 : PS) (c D0 : Nat) : Prop where
  ec : ∀ e, e < E → (∃ f f2 : Nat, P.fr e = (f : Int) ∧ f < P.nS ∧ P.comp f = (c : Int) ∧ P2.fr e = (f2 : Int) ∧ f2 < P2.nS ∧ P2.comp f2 = (D0 : Int)) ∨ ((P.fr e = -1 ∨ ∃ f d : Nat, P.fr e = (f : Int) ∧ f < P.nS ∧ P.comp f = (d : Int) ∧ d ≠ c) ∧ P2.fr e = P.fr e ∧ P2.to e = P.to e)
  ex : ∃ e f : Nat, e < E ∧ P.fr e = (f : Int) ∧ P.comp f = (c : Int)
  Dc : D0 ≠ c
  Du : D0 < P.nC → P.mn D0 = 0
  D2 : D0 < P2.nC
  mem : ∀ k, k < P.nC → k ≠ c → k ≠ D0 → P2.mn k = P.mn k ∧ P2.mem k = P.mem k ∧ P2.edg k = P.edg k
  nCC : P.nC ≤ P2.nC
  cn : P2.mn c = 0
theorem Meet.dvp (h : Meet (G.md R nc cls) P) (ok : G.Ok) (hm : MOk G R nc cls) (hc : Calm P) (c1 : c < P.nC) (c2 : P.mn c ≠ 0) (hf : DF P c (P.mn c) (P.sl c) L P2) (nb : L.nb = 1) (hb : ∀ e, L.blk e ≠ 0 ↔ InC P (P.mn c) (P.sl c) e) : DvP G.E P P2 c (P.cs 0) := by
  have hgo := h.bgo ok hm hc c1 c2
  refine ⟨fun e he => ?_, ?_, (hgo.c_cs 0).symm, fun hlt => ?_, hf.cs_lt hc.sp (by omega), fun k hk h1 h2 => ?_, by rw [hf.nC]; omega, hf.cc⟩
  · by_cases hi : InC P (P.mn c) (P.sl c) e
    · left
      obtain ⟨f, t, q1, q2, ⟨j, j1, j2⟩, q4, q5, q6⟩ := h.bends c1 c2 hi
      obtain ⟨b1, b2, k, k', m3, m4, m5, m6, m7, m8, m9, m10⟩ := hf.emov e ((hb e).2 hi)
      have hbe := (hb e).2 hi
      have e1 : L.blk e = 1 := by omega
      rw [e1] at m3 m4
      have hkt : L.kb 1 ≤ L.t := hf.kle 1 (by omega)
      have m4 : k < L.kb (0 + 1) := m4
      have m3 : L.kb 0 ≤ k := m3
      obtain ⟨_, p2, p3, _⟩ := h.bmem c1 j1
      rw [j2] at p2 p3
      exact ⟨f, P.ns k, q1, p2, p3, m7, hf.ns_lt hc.sp (by omega), hf.scmp 0 k (by omega) m3 m4⟩
    · right
      refine ⟨?_, hf.eoth e (fun i j hi' hj' he' => hi ⟨i, j, hi', hj', he'⟩)⟩
      cases ho : (G.md R nc cls).onc e with
      | false => exact .inl (h.off e he ho).1
      | true =>
        obtain ⟨f, t, c', f1, t1, q1, q2, q3, q4, q5, q6⟩ := h.on e he ho
        refine .inr ⟨f, c', q1, f1, q5, fun ec => hi ((h.binC c1 c2).2 ⟨he, ho, ?_⟩)⟩
        rw [q1, Int.toNat_natCast, q5, ec]
  · obtain ⟨e, hi⟩ := h.bex c1 c2
    obtain ⟨f, t, q1, q2, ⟨j, j1, j2⟩, _⟩ := h.bends c1 c2 hi
    obtain ⟨_, _, p3, _⟩ := h.bmem c1 j1
    rw [j2] at p3
    exact ⟨e, f, ((h.binC c1 c2).1 hi).1, q1, p3⟩
  · unfold PS.cs at hlt ⊢
    by_cases h0 : 0 < P.nU
    · rw [if_pos h0] at hlt ⊢
      exact hc.m0 _ (by omega)
    · rw [if_neg h0] at hlt; omega
  · exact hf.coth k h1 (fun β hβ => by rw [show β = 0 by omega]; exact h2)
end
end Go.Proofs.Qxb6602148a
