/-
  PLAIN: edges that no node below N parts, over any kind of edge; a block hangs together inside itself.
-/
import Derived.Test.Qxb6602148aPth
namespace Go.Proofs.Qxb6602148a
set_option linter.unusedVariables false

/-- A step that leaves x alone. -/
def Ad (I : Nat → Nat → Nat → Prop) (x u v : Nat) : Prop := u ≠ x ∧ v ≠ x ∧ ∃ f, I u f v
/-- No node below N parts e from e'. -/
def EqN (I : Nat → Nat → Nat → Prop) (N e e' : Nat) : Prop := ∀ x a b a' b', x < N → I a e b → I a' e' b' → a ≠ x → a' ≠ x → Rch (Ad I x) a a'

section
variable {I : Nat → Nat → Nat → Prop} {N : Nat}
theorem Ad.symm (hs : ∀ a f b, I a f b → I b f a) {x u v : Nat} (h : Ad I x u v) : Ad I x v u := by
  obtain ⟨h1, h2, f, h3⟩ := h
  exact ⟨h2, h1, f, hs _ _ _ h3⟩
theorem ad_symm (hs : ∀ a f b, I a f b → I b f a) {x u v : Nat} (h : Rch (Ad I x) u v) : Rch (Ad I x) v u := Rch.symm (fun _ _ => Ad.symm hs) h
/-- Two ends of one edge. -/
theorem ends_ad (h2 : ∀ a e b a' b', I a e b → I a' e b' → (a' = a ∧ b' = b) ∨ (a' = b ∧ b' = a)) {a e b a' b' y : Nat} (h : I a e b) (h' : I a' e b') (n1 : a ≠ y) (n2 : a' ≠ y) : Rch (Ad I y) a a' := by
  rcases h2 _ _ _ _ _ h h' with ⟨rfl, rfl⟩ | ⟨rfl, rfl⟩
  · exact Rch.refl _ _
  · exact Rch.one ⟨n1, n2, e, h⟩
theorem EqN.refl (h2 : ∀ a e b a' b', I a e b → I a' e b' → (a' = a ∧ b' = b) ∨ (a' = b ∧ b' = a)) (e : Nat) : EqN I N e e := fun x a b a' b' _ i1 i2 n1 n2 => ends_ad h2 i1 i2 n1 n2
/-- An edge of a simple path between two edges that are never parted belongs to them. -/
theorem path_eqN (hs : ∀ a f b, I a f b → I b f a) (h2 : ∀ a e b a' b', I a e b → I a' e b' → (a' = a ∧ b' = b) ∨ (a' = b ∧ b' = a)) {e e' a b a' b' m : Nat} {v : Nat → Nat} (he : I a e b) (he' : I a' e' b') (hq : EqN I N e e') (hp : SPath (fun x y => ∃ f, I x f y) a a' m v) {i f : Nat} (hi : i < m) (hf : I (v i) f (v (i + 1))) : EqN I N e f := by
  intro y c d c' d' hy hc hc' n1 n2
  have step : ∀ j, j < m → v j ≠ y → v (j + 1) ≠ y → Ad I y (v j) (v (j + 1)) := fun j hj y1 y2 => ⟨y1, y2, hp.st j hj⟩
  by_cases hex : ∃ j, j ≤ i ∧ v j = y
  · obtain ⟨j, hj, ej⟩ := hex
    have ny : ∀ k, i + 1 ≤ k → k ≤ m → v k ≠ y := fun k k1 k2 e1 => by
      have := hp.inj k j k2 (by omega) (by rw [e1, ej]); omega
    have h1 : Rch (Ad I y) (v (i + 1)) (v m) := by
      have := stretch (R := Ad I y) (v := v) (i := i + 1) (m - (i + 1)) (fun k k1 k2 => step k (by omega) (ny k k1 (by omega)) (ny (k + 1) (by omega) (by omega)))
      rw [show i + 1 + (m - (i + 1)) = m by omega] at this
      exact this
    rw [hp.hm] at h1
    have na : a' ≠ y := by have := ny m (by omega) (Nat.le_refl _); rw [hp.hm] at this; exact this
    have h4 : Rch (Ad I y) c' (v (i + 1)) := ends_ad h2 hc' (hs _ _ _ hf) n2 (ny (i + 1) (Nat.le_refl _) (by omega))
    have h3 : Rch (Ad I y) c a' := hq y c d a' b' hy hc he' n1 na
    exact h3.trans (ad_symm hs (h4.trans h1))
  · have ny : ∀ k, k ≤ i → v k ≠ y := fun k hk e1 => hex ⟨k, hk, e1⟩
    have h1 : Rch (Ad I y) (v 0) (v i) := by
      have := stretch (R := Ad I y) (v := v) (i := 0) i (fun k k1 k2 => step k (by omega) (ny k (by omega)) (ny (k + 1) (by omega)))
      rw [Nat.zero_add] at this
      exact this
    rw [hp.h0] at h1
    have na : a ≠ y := by have := ny 0 (by omega); rw [hp.h0] at this; exact this
    have h4 : Rch (Ad I y) (v i) c' := ends_ad h2 hf hc' (ny i (Nat.le_refl _)) n2
    have h3 : Rch (Ad I y) c a := ends_ad h2 hc he n1 na
    exact (h3.trans h1).trans h4
/-- Edges of one block hang together without x inside the block. -/
theorem insideN (hs : ∀ a f b, I a f b → I b f a) (h2 : ∀ a e b a' b', I a e b → I a' e b' → (a' = a ∧ b' = b) ∨ (a' = b ∧ b' = a)) {e e' a b a' b' x : Nat} (he : I a e b) (he' : I a' e' b') (hq : EqN I N e e') (hx : x < N) (n1 : a ≠ x) (n2 : a' ≠ x) : Rch (fun u v => u ≠ x ∧ v ≠ x ∧ ∃ f, I u f v ∧ EqN I N e f) a a' := by
  obtain ⟨m, v, hp⟩ := (hq x a b a' b' hx he he' n1 n2).simple
  have hp' : SPath (fun x y => ∃ f, I x f y) a a' m v := ⟨hp.h0, hp.hm, fun i hi => (hp.st i hi).2.2, hp.inj⟩
  have := stretch (R := fun u v => u ≠ x ∧ v ≠ x ∧ ∃ f, I u f v ∧ EqN I N e f) (v := v) (i := 0) m (fun i i1 i2 => by
    obtain ⟨a1, a2, f, hf⟩ := hp.st i (by omega)
    exact ⟨a1, a2, f, hf, path_eqN hs h2 he he' hq hp' (by omega) hf⟩)
  rw [Nat.zero_add, hp.h0, hp.hm] at this
  exact this
/-- The edges of a simple cycle are never parted: e from b to a, and the edges of a path from a to b. -/
theorem cycle_eqN (hs : ∀ a f b, I a f b → I b f a) (h2 : ∀ a e b a' b', I a e b → I a' e b' → (a' = a ∧ b' = b) ∨ (a' = b ∧ b' = a)) {e m : Nat} {v : Nat → Nat} {a b : Nat} (he : I b e a) (hp : SPath (fun x y => ∃ f, I x f y) a b m v) {i f : Nat} (hi : i < m) (hf : I (v i) f (v (i + 1))) : EqN I N e f :=
  path_eqN hs h2 (hs _ _ _ he) he (EqN.refl h2 e) hp hi hf
end
end Go.Proofs.Qxb6602148a
