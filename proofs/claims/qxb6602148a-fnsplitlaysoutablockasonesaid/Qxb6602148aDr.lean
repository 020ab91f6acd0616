/-
  PLAIN: 'divide': its end: the edges that were not moved are put out, the slots are handed back.
-/
import Derived.Test.Qxb6602148aDq
import Derived.Test.Qxb6602148aStp
attribute [local go_sem] Go.Proofs.Qxb6602148a.yTo Go.Proofs.Qxb6602148a.yUpon
namespace Go.Proofs.Qxb6602148a
set_option linter.unusedVariables false
set_option linter.unusedSimpArgs false

/-- The slots before the i-th have been handed back, and j edges of the i-th looked at. -/
structure DC (x : DX) (PB : PS) (L : LS) (i j : Nat) (P : PS) : Prop where
  eq : ∃ f t o n r, P = PB.clr f t o n r
  f1 : ∀ e, L.blk e ≠ 0 → P.fr e = PB.fr e ∧ P.to e = PB.to e
  f2 : ∀ i' j' e, bef i' j' i j → i' < x.n → j' < x.P.on (x.sl i') → x.P.out (x.sl i') j' = ((e : Nat) : Int) → L.blk e = 0 → P.fr e = -1 ∧ P.to e = -1
  f3 : ∀ e, (∀ i' j', bef i' j' i j → i' < x.n → j' < x.P.on (x.sl i') → x.P.out (x.sl i') j' ≠ ((e : Nat) : Int)) → P.fr e = PB.fr e ∧ P.to e = PB.to e
  o1 : ∀ i', i' < i → P.on (x.sl i') = 0
  o2 : ∀ s, (∀ i', i' < i → s ≠ x.sl i') → P.on s = PB.on s
  nF : P.nF = PB.nF + i
  r1 : ∀ k, k < PB.nF → P.free k = PB.free k
  r2 : ∀ k, k < i → P.free (PB.nF + k) = ((x.sl k : Nat) : Int)

section
variable {x : DX} {PB : PS} {L : LS} {i j : Nat} {P : PS}

theorem DC.start (x : DX) (PB : PS) (L : LS) : DC x PB L 0 0 PB :=
  ⟨⟨_, _, _, _, _, rfl⟩, fun e _ => ⟨rfl, rfl⟩, fun i' j' e h => by unfold bef at h; omega, fun e _ => ⟨rfl, rfl⟩, fun i' h => by omega, fun s _ => rfl, rfl, fun k _ => rfl, fun k h => by omega⟩
/-- An edge that was moved: it stays. -/
theorem DC.stay (h : DC x PB L i j P) {e : Nat} (he : x.P.out (x.sl i) j = ((e : Nat) : Int)) (hb : L.blk e ≠ 0) : DC x PB L i (j + 1) P := by
  refine ⟨h.eq, h.f1, fun i' j' e' hbe h1 h2 h3 h4 => ?_, fun e' hn => ?_, h.o1, h.o2, h.nF, h.r1, h.r2⟩
  · by_cases hq : i' = i ∧ j' = j
    · obtain ⟨rfl, rfl⟩ := hq
      have : e' = e := by rw [he] at h3; omega
      subst this
      exact absurd h4 hb
    · exact h.f2 i' j' e' (by unfold bef at hbe ⊢; omega) h1 h2 h3 h4
  · exact h.f3 e' (fun i' j' hbe => hn i' j' (by unfold bef at hbe ⊢; omega))
/-- One that was not: it is put out. -/
theorem DC.drop (h : DC x PB L i j P) (hi : i < x.n) (hj : j < x.P.on (x.sl i)) {e : Nat} (he : x.P.out (x.sl i) j = ((e : Nat) : Int)) (hb : L.blk e = 0) : DC x PB L i (j + 1) (P.unmove e) := by
  obtain ⟨f, t, o, n, r, e0⟩ := h.eq
  have fo : ∀ e', e' ≠ e → (P.unmove e).fr e' = P.fr e' ∧ (P.unmove e).to e' = P.to e' := fun e' hne => ⟨upd_other _ _ hne, upd_other _ _ hne⟩
  refine ⟨⟨_, _, _, _, _, by rw [e0]; rfl⟩, fun e' hb' => ?_, fun i' j' e' hbe h1 h2 h3 h4 => ?_, fun e' hn => ?_, h.o1, h.o2, h.nF, h.r1, h.r2⟩
  · have hne : e' ≠ e := fun e1 => hb' (by rw [e1]; exact hb)
    rw [(fo e' hne).1, (fo e' hne).2]; exact h.f1 e' hb'
  · by_cases hq : e' = e
    · subst hq
      exact ⟨upd_same _ _ _, upd_same _ _ _⟩
    · rw [(fo e' hq).1, (fo e' hq).2]
      refine h.f2 i' j' e' ?_ h1 h2 h3 h4
      have : ¬ (i' = i ∧ j' = j) := by
        rintro ⟨rfl, rfl⟩
        exact hq (by rw [he] at h3; omega)
      unfold bef at hbe ⊢; omega
  · have hne : e' ≠ e := fun e1 => hn i j (by unfold bef; omega) hi hj (by rw [e1]; exact he)
    rw [(fo e' hne).1, (fo e' hne).2]
    exact h.f3 e' (fun i' j' hbe => hn i' j' (by unfold bef at hbe ⊢; omega))
/-- The slot is handed back. -/
theorem DC.next (h : DC x PB L i (x.P.on (x.sl i)) P) : DC x PB L (i + 1) 0 ((P.dropOut (x.sl i)).spare ((x.sl i : Nat) : Int)) := by
  obtain ⟨f, t, o, n, r, e0⟩ := h.eq
  have hb : ∀ i' j', i' < x.n → j' < x.P.on (x.sl i') → (bef i' j' (i + 1) 0 ↔ bef i' j' i (x.P.on (x.sl i))) := by
    intro i' j' h1 h2
    unfold bef
    constructor
    · intro h3
      rcases Nat.lt_or_ge i' i with hlt | hge
      · exact .inl hlt
      · have : i' = i := by omega
        subst this
        exact .inr ⟨rfl, h2⟩
    · omega
  have nF := h.nF
  refine ⟨⟨_, _, _, _, _, by rw [e0]; rfl⟩, h.f1, fun i' j' e hbe h1 h2 h3 h4 => h.f2 i' j' e ((hb i' j' h1 h2).1 hbe) h1 h2 h3 h4, fun e hn => h.f3 e (fun i' j' hbe h1 h2 => hn i' j' ((hb i' j' h1 h2).2 hbe) h1 h2), fun i' hi' => ?_, fun s hs => ?_, ?_, fun k hk => ?_, fun k hk => ?_⟩
  · show upn P.on (x.sl i) 0 (x.sl i') = 0
    by_cases e : x.sl i' = x.sl i
    · rw [e, upn_same]
    · rw [upn_other _ _ e]
      have : i' ≠ i := fun e' => e (by rw [e'])
      exact h.o1 i' (by omega)
  · show upn P.on (x.sl i) 0 s = _
    rw [upn_other _ _ (hs i (by omega))]
    exact h.o2 s (fun i' hi' => hs i' (by omega))
  · show P.nF + 1 = _; omega
  · show upd P.free P.nF _ k = _
    rw [upd_other _ _ (by omega)]; exact h.r1 k hk
  · show upd P.free P.nF _ (PB.nF + k) = _
    by_cases e : k = i
    · subst e; rw [nF, upd_same]
    · rw [upd_other _ _ (by omega)]; exact h.r2 k (by omega)

/-- What the i-th slot's j-th edge has, before it is looked at. -/
theorem DC.at (h : DC x PB L i j P) (hgo : DGo x.P x.c x.n x.sl) (hi : i < x.n) (hj : j < x.P.on (x.sl i)) {e : Nat} (he : x.P.out (x.sl i) j = ((e : Nat) : Int)) : P.fr e = PB.fr e := by
  refine (h.f3 e (fun i' j' hb h1 h2 h3 => ?_)).1
  obtain ⟨e1, _, a1, _, a3, _⟩ := hgo.edge i j hi hj
  obtain ⟨e2, _, b1, _, b3, _⟩ := hgo.edge i' j' h1 h2
  have q1 : e1 = e := by rw [he] at a1; omega
  have q2 : e2 = e := by rw [h3] at b1; omega
  subst q1
  subst q2
  have hii : i' = i := hgo.inj i' i h1 hi (by rw [a3] at b3; omega)
  subst hii
  unfold bef at hb
  have := hgo.incr i' j' j hi (by omega) hj
  rw [h3, he] at this
  omega
end

/-- At the end: c is handed back too. -/
def PS.giveC (P : PS) (c : Int) : PS := { P with nU := P.nU + 1, unused := upd P.unused P.nU c }

/-- What 'divide' leaves, plainly. -/
structure DEnd (x : DX) (PF : PS) : Prop where
  ex : ∃ s K ln ls lk PA PB L P6, TInv (dg x.P x.n x.sl) s ∧ DPl x x.n s K ln ls lk ∧ s.m = 0 ∧ DR x.P x.c s PA ∧ DL PA K ln ls ∧ DV PA ln ls K PB L ∧ DC x PB L x.n 0 P6 ∧ PF = P6.giveC (x.c : Int)
end Go.Proofs.Qxb6602148a
