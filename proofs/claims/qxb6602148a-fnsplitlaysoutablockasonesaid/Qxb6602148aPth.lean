/-
  PLAIN: simple paths; the edges of a block hang together inside the block; a block of a strongly connected graph is strongly connected.
-/
import Derived.Test.Qxb6602148aHT
namespace Go.Proofs.Qxb6602148a
set_option linter.unusedVariables false

/-- A path without a node twice. -/
structure SPath (R : Nat → Nat → Prop) (a b m : Nat) (v : Nat → Nat) : Prop where
  h0 : v 0 = a
  hm : v m = b
  st : ∀ i, i < m → R (v i) (v (i + 1))
  inj : ∀ i j, i ≤ m → j ≤ m → v i = v j → i = j

theorem Rch.simple {R : Nat → Nat → Prop} {a b : Nat} (h : Rch R a b) : ∃ m v, SPath R a b m v := by
  refine h (fun y => ∃ m v, SPath R a y m v) ⟨0, fun _ => a, rfl, rfl, fun i hi => by omega, fun i j hi hj _ => by omega⟩ ?_
  rintro x y ⟨m, v, h0, hm, st, inj⟩ r
  by_cases hex : ∃ i, i ≤ m ∧ v i = y
  · obtain ⟨i, hi, e⟩ := hex
    exact ⟨i, v, h0, e, fun j hj => st j (by omega), fun j k hj hk => inj j k (by omega) (by omega)⟩
  · refine ⟨m + 1, up v (m + 1) y, ?_, up_same _ _ _, ?_, ?_⟩
    · rw [up_other _ _ (by omega)]; exact h0
    · intro i hi
      by_cases e : i = m
      · subst e; rw [up_other _ _ (by omega), up_same, hm]; exact r
      · rw [up_other _ _ (by omega), up_other _ _ (by omega)]; exact st i (by omega)
    · intro i j hi hj
      by_cases ei : i = m + 1 <;> by_cases ej : j = m + 1
      · omega
      · subst ei; rw [up_same, up_other _ _ ej]; intro e; exact absurd ⟨j, by omega, e.symm⟩ hex
      · subst ej; rw [up_same, up_other _ _ ei]; intro e; exact absurd ⟨i, by omega, e⟩ hex
      · rw [up_other _ _ ei, up_other _ _ ej]; exact inj i j (by omega) (by omega)

theorem SPath.reach {R : Nat → Nat → Prop} {a b m : Nat} {v : Nat → Nat} (h : SPath R a b m v) {i : Nat} : ∀ k, i + k ≤ m → Rch R (v i) (v (i + k))
  | 0, _ => Rch.refl _ _
  | k + 1, hk => (h.reach k (by omega)).step (h.st (i + k) (by omega))
/-- Along a stretch of it, in another relation. -/
theorem stretch {R : Nat → Nat → Prop} {v : Nat → Nat} {i : Nat} : ∀ k, (∀ j, i ≤ j → j < i + k → R (v j) (v (j + 1))) → Rch R (v i) (v (i + k))
  | 0, _ => Rch.refl _ _
  | k + 1, h => (stretch k (fun j j1 j2 => h j j1 (by omega))).step (h (i + k) (by omega) (by omega))

section
variable {g : UG}

/-- Two ends of one edge hang together without y, if neither is y. -/
theorem UG.Ok.ends_cn (ok : g.Ok) {a e b a' b' y : Nat} (h : g.inc a e b) (h' : g.inc a' e b') (n1 : a ≠ y) (n2 : a' ≠ y) : g.Cn y a a' := ok.eqv_refl e y a b a' b' h h' n1 n2

/-- An edge of a simple path between two edges that are never parted belongs to them. -/
theorem UG.Ok.path_eqv (ok : g.Ok) {e e' a b a' b' m : Nat} {v : Nat → Nat} (he : g.inc a e b) (he' : g.inc a' e' b') (hq : g.Eqv e e') (hp : SPath (fun x y => ∃ f, g.inc x f y) a a' m v) {i f : Nat} (hi : i < m) (hf : g.inc (v i) f (v (i + 1))) : g.Eqv e f := by
  intro y c d c' d' hc hc' n1 n2
  have step : ∀ j, j < m → v j ≠ y → v (j + 1) ≠ y → g.Adj y (v j) (v (j + 1)) := fun j hj y1 y2 => ⟨y1, y2, hp.st j hj⟩
  by_cases hex : ∃ j, j ≤ i ∧ v j = y
  · obtain ⟨j, hj, ej⟩ := hex
    -- y is behind: go on to e'
    have ny : ∀ k, i + 1 ≤ k → k ≤ m → v k ≠ y := fun k k1 k2 e1 => by
      have := hp.inj k j k2 (by omega) (by rw [e1, ej]); omega
    have h1 : g.Cn y (v (i + 1)) (v m) := by
      have := stretch (R := g.Adj y) (v := v) (i := i + 1) (m - (i + 1)) (fun k k1 k2 => step k (by omega) (ny k k1 (by omega)) (ny (k + 1) (by omega) (by omega)))
      rw [show i + 1 + (m - (i + 1)) = m by omega] at this
      exact this
    rw [hp.hm] at h1
    have na : a' ≠ y := by have := ny m (by omega) (Nat.le_refl _); rw [hp.hm] at this; exact this
    have h2 : g.Cn y c' (v (i + 1)) := ok.ends_cn hc' (ok.symm _ _ _ hf) n2 (ny (i + 1) (Nat.le_refl _) (by omega))
    have h3 : g.Cn y c a' := hq y c d a' b' hc he' n1 na
    exact h3.trans (ok.cn_symm (h2.trans h1))
  · have ny : ∀ k, k ≤ i → v k ≠ y := fun k hk e1 => hex ⟨k, hk, e1⟩
    have h1 : g.Cn y (v 0) (v i) := by
      have := stretch (R := g.Adj y) (v := v) (i := 0) i (fun k k1 k2 => step k (by omega) (ny k (by omega)) (ny (k + 1) (by omega)))
      rw [Nat.zero_add] at this
      exact this
    rw [hp.h0] at h1
    have na : a ≠ y := by have := ny 0 (by omega); rw [hp.h0] at this; exact this
    have h2 : g.Cn y (v i) c' := ok.ends_cn hf hc' (ny i (Nat.le_refl _)) n2
    have h3 : g.Cn y c a := ok.ends_cn hc he n1 na
    exact (h3.trans h1).trans h2

/-- Edges of one block hang together without x inside the block. -/
theorem UG.Ok.inside (ok : g.Ok) {e e' a b a' b' x : Nat} (he : g.inc a e b) (he' : g.inc a' e' b') (hq : g.Eqv e e') (n1 : a ≠ x) (n2 : a' ≠ x) : Rch (fun u v => u ≠ x ∧ v ≠ x ∧ ∃ f, g.inc u f v ∧ g.Eqv e f) a a' := by
  obtain ⟨m, v, hp⟩ := (hq x a b a' b' he he' n1 n2).simple
  have hp' : SPath (fun x y => ∃ f, g.inc x f y) a a' m v := ⟨hp.h0, hp.hm, fun i hi => (hp.st i hi).2.2, hp.inj⟩
  have := stretch (R := fun u v => u ≠ x ∧ v ≠ x ∧ ∃ f, g.inc u f v ∧ g.Eqv e f) (v := v) (i := 0) m (fun i i1 i2 => by
    obtain ⟨a1, a2, f, hf⟩ := hp.st i (by omega)
    exact ⟨a1, a2, f, hf, ok.path_eqv he he' hq hp' (by omega) hf⟩)
  rw [Nat.zero_add, hp.h0, hp.hm] at this
  exact this

/-- The edges of a simple cycle are never parted: e from v m to v 0, and the path's edges. -/
theorem UG.Ok.cycle_eqv (ok : g.Ok) {e m : Nat} {v : Nat → Nat} {a b : Nat} (he : g.inc b e a) (hp : SPath (fun x y => ∃ f, g.inc x f y) a b m v) {i f : Nat} (hi : i < m) (hf : g.inc (v i) f (v (i + 1))) : g.Eqv e f :=
  ok.path_eqv (ok.symm _ _ _ he) he (ok.eqv_refl e) hp hi hf
end
end Go.Proofs.Qxb6602148a
