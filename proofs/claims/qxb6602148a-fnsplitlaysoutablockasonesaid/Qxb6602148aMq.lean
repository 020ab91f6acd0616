/-
  PLAIN: edges in lists, one list a kind.
-/
import Derived.Test.Qxb6602148aMde
attribute [local go_sem] Go.Proofs.Qxb6602148a.yTo Go.Proofs.Qxb6602148a.yUpon
namespace Go.Proofs.Qxb6602148a
set_option linter.unusedVariables false
set_option linter.unusedSimpArgs false

def upl (cl : Nat → Nat → Nat) (i j x : Nat) : Nat → Nat → Nat := fun i' => if i' = i then up (cl i) j x else cl i'
theorem upl_same (cl : Nat → Nat → Nat) (i j x : Nat) : upl cl i j x i = up (cl i) j x := by simp [upl]
theorem upl_other (cl : Nat → Nat → Nat) {i i' : Nat} (j x : Nat) (h : i' ≠ i) : upl cl i j x i' = cl i' := by simp [upl, h]

/-- The edges of S lie in nc lists; two of them lie in one list iff they are of one kind. -/
structure PT (S : Nat → Prop) (Rel : Nat → Nat → Prop) (nc : Nat) (cn : Nat → Nat) (cl : Nat → Nat → Nat) : Prop where
  el : ∀ i j, i < nc → j < cn i → S (cl i j)
  ex : ∀ f, S f → ∃ i j, i < nc ∧ j < cn i ∧ cl i j = f
  inj : ∀ i j i' j', i < nc → j < cn i → i' < nc → j' < cn i' → cl i j = cl i' j' → i = i' ∧ j = j'
  pos : ∀ i, i < nc → 0 < cn i
  eqv : ∀ i j i' j', i < nc → j < cn i → i' < nc → j' < cn i' → (i = i' ↔ Rel (cl i j) (cl i' j'))
section
variable {S : Nat → Prop} {Rel : Nat → Nat → Prop} {nc : Nat} {cn : Nat → Nat} {cl : Nat → Nat → Nat}
theorem PT.nil (hS : ∀ f, ¬ S f) (Rel : Nat → Nat → Prop) (cn : Nat → Nat) (cl : Nat → Nat → Nat) : PT S Rel 0 cn cl :=
  ⟨fun i j h => absurd h (Nat.not_lt_zero _), fun f h => absurd h (hS f), fun i j i' j' h => absurd h (Nat.not_lt_zero _), fun i h => absurd h (Nat.not_lt_zero _), fun i j i' j' h => absurd h (Nat.not_lt_zero _)⟩
theorem PT.congr {S' : Nat → Prop} {Rel' : Nat → Nat → Prop} (h : PT S Rel nc cn cl) (hS : ∀ f, S f ↔ S' f) (hR : ∀ f f', S f → S f' → (Rel f f' ↔ Rel' f f')) : PT S' Rel' nc cn cl :=
  ⟨fun i j hi hj => (hS _).1 (h.el i j hi hj), fun f hf => h.ex f ((hS f).2 hf), h.inj, h.pos, fun i j i' j' h1 h2 h3 h4 => (h.eqv i j i' j' h1 h2 h3 h4).trans (hR _ _ (h.el i j h1 h2) (h.el i' j' h3 h4))⟩
theorem PT.cn_le (h : PT S Rel nc cn cl) {E : Nat} (hS : ∀ f, S f → f < E) {i : Nat} (hi : i < nc) : cn i ≤ E :=
  pigeon E (cn i) (cl i) (fun j hj => hS _ (h.el i j hi hj)) (fun j j' h1 h2 e => (h.inj i j i j' hi h1 hi h2 e).2)
theorem PT.nc_le (h : PT S Rel nc cn cl) {E : Nat} (hS : ∀ f, S f → f < E) : nc ≤ E :=
  pigeon E nc (fun i => cl i 0) (fun i hi => hS _ (h.el i 0 hi (h.pos i hi))) (fun i i' h1 h2 e => (h.inj i 0 i' 0 h1 (h.pos i h1) h2 (h.pos i' h2) e).1)
/-- A further edge, of a kind that has a list. -/
theorem PT.join {S' : Nat → Prop} {f k q : Nat} (h : PT S Rel nc cn cl) (hf : ¬ S f) (hS : ∀ g, S' g ↔ S g ∨ g = f) (hk : k < nc) (hq : q < cn k) (hr : Rel f (cl k q))
    (sy : ∀ a b, S' a → S' b → Rel a b → Rel b a) (tr : ∀ a b c, S' a → S' b → S' c → Rel a b → Rel b c → Rel a c) : PT S' Rel nc (up cn k (cn k + 1)) (upl cl k (cn k) f) := by
  have ff : S' f := (hS f).2 (.inr rfl)
  have old : ∀ i j, i < nc → j < up cn k (cn k + 1) i → (i = k ∧ j = cn k ∧ upl cl k (cn k) f i j = f) ∨ (j < cn i ∧ upl cl k (cn k) f i j = cl i j) := by
    intro i j hi hj
    by_cases e : i = k
    · subst e
      rw [up_same] at hj
      rw [upl_same]
      by_cases ej : j = cn i
      · subst ej; rw [up_same]; exact .inl ⟨rfl, rfl, rfl⟩
      · rw [up_other _ _ ej]; exact .inr ⟨by omega, rfl⟩
    · rw [up_other _ _ e] at hj
      rw [upl_other _ _ _ e]
      exact .inr ⟨hj, rfl⟩
  have relk : ∀ i j, i < nc → j < cn i → (i = k ↔ Rel (cl i j) f) := by
    intro i j hi hj
    have s1 : S' (cl i j) := (hS _).2 (.inl (h.el i j hi hj))
    have s2 : S' (cl k q) := (hS _).2 (.inl (h.el k q hk hq))
    rw [h.eqv i j k q hi hj hk hq]
    exact ⟨fun h1 => tr _ _ _ s1 s2 ff h1 (sy _ _ ff s2 hr), fun h1 => tr _ _ _ s1 ff s2 h1 hr⟩
  refine ⟨fun i j hi hj => ?_, fun g hg => ?_, fun i j i' j' h1 h2 h3 h4 e => ?_, fun i hi => ?_, fun i j i' j' h1 h2 h3 h4 => ?_⟩
  · rcases old i j hi hj with ⟨_, _, e⟩ | ⟨hj', e⟩
    · rw [e]; exact ff
    · rw [e]; exact (hS _).2 (.inl (h.el i j hi hj'))
  · rcases (hS g).1 hg with hg | rfl
    · obtain ⟨i, j, hi, hj, e⟩ := h.ex g hg
      refine ⟨i, j, hi, ?_, ?_⟩
      · by_cases ei : i = k
        · subst ei; rw [up_same]; omega
        · rw [up_other _ _ ei]; exact hj
      · by_cases ei : i = k
        · subst ei; rw [upl_same, up_other _ _ (by omega)]; exact e
        · rw [upl_other _ _ _ ei]; exact e
    · exact ⟨k, cn k, hk, by rw [up_same]; omega, by rw [upl_same, up_same]⟩
  · rcases old i j h1 h2 with ⟨a1, a2, a3⟩ | ⟨a1, a2⟩ <;> rcases old i' j' h3 h4 with ⟨b1, b2, b3⟩ | ⟨b1, b2⟩
    · omega
    · rw [a3, b2] at e
      exact absurd (e ▸ h.el i' j' h3 b1) hf
    · rw [a2, b3] at e
      exact absurd (e ▸ h.el i j h1 a1) hf
    · rw [a2, b2] at e
      exact h.inj i j i' j' h1 a1 h3 b1 e
  · by_cases ei : i = k
    · subst ei; rw [up_same]; omega
    · rw [up_other _ _ ei]; exact h.pos i hi
  · rcases old i j h1 h2 with ⟨a1, a2, a3⟩ | ⟨a1, a2⟩ <;> rcases old i' j' h3 h4 with ⟨b1, b2, b3⟩ | ⟨b1, b2⟩
    · rw [a3, b3, a1, b1]
      have s2 : S' (cl k q) := (hS _).2 (.inl (h.el k q hk hq))
      exact ⟨fun _ => tr _ _ _ ff s2 ff hr (sy _ _ ff s2 hr), fun _ => rfl⟩
    · rw [a3, b2, a1]
      have s3 : S' (cl i' j') := (hS _).2 (.inl (h.el i' j' h3 b1))
      exact ⟨fun e => sy _ _ s3 ff ((relk i' j' h3 b1).1 e.symm), fun e => ((relk i' j' h3 b1).2 (sy _ _ ff s3 e)).symm⟩
    · rw [a2, b3, b1]
      exact relk i j h1 a1
    · rw [a2, b2]
      exact h.eqv i j i' j' h1 a1 h3 b1
/-- A further edge, of a new kind. -/
theorem PT.fresh {S' : Nat → Prop} {f : Nat} (h : PT S Rel nc cn cl) (hf : ¬ S f) (hS : ∀ g, S' g ↔ S g ∨ g = f) (hr : ∀ g, S g → ¬ Rel f g)
    (rf : Rel f f) (sy : ∀ a b, S' a → S' b → Rel a b → Rel b a) : PT S' Rel (nc + 1) (up cn nc 1) (upl cl nc 0 f) := by
  have ff : S' f := (hS f).2 (.inr rfl)
  have old : ∀ i j, i < nc + 1 → j < up cn nc 1 i → (i = nc ∧ j = 0 ∧ upl cl nc 0 f i j = f) ∨ (i < nc ∧ j < cn i ∧ upl cl nc 0 f i j = cl i j) := by
    intro i j hi hj
    by_cases e : i = nc
    · subst e
      rw [up_same] at hj
      obtain rfl : j = 0 := by omega
      rw [upl_same, up_same]
      exact .inl ⟨rfl, rfl, rfl⟩
    · rw [up_other _ _ e] at hj
      rw [upl_other _ _ _ e]
      exact .inr ⟨by omega, hj, rfl⟩
  refine ⟨fun i j hi hj => ?_, fun g hg => ?_, fun i j i' j' h1 h2 h3 h4 e => ?_, fun i hi => ?_, fun i j i' j' h1 h2 h3 h4 => ?_⟩
  · rcases old i j hi hj with ⟨_, _, e⟩ | ⟨hi', hj', e⟩
    · rw [e]; exact ff
    · rw [e]; exact (hS _).2 (.inl (h.el i j hi' hj'))
  · rcases (hS g).1 hg with hg | rfl
    · obtain ⟨i, j, hi, hj, e⟩ := h.ex g hg
      refine ⟨i, j, by omega, ?_, ?_⟩
      · rw [up_other _ _ (by omega)]; exact hj
      · rw [upl_other _ _ _ (by omega)]; exact e
    · exact ⟨nc, 0, by omega, by rw [up_same]; omega, by rw [upl_same, up_same]⟩
  · rcases old i j h1 h2 with ⟨a1, a2, a3⟩ | ⟨a0, a1, a2⟩ <;> rcases old i' j' h3 h4 with ⟨b1, b2, b3⟩ | ⟨b0, b1, b2⟩
    · omega
    · rw [a3, b2] at e
      exact absurd (e ▸ h.el i' j' b0 b1) hf
    · rw [a2, b3] at e
      exact absurd (e ▸ h.el i j a0 a1) hf
    · rw [a2, b2] at e
      exact h.inj i j i' j' a0 a1 b0 b1 e
  · by_cases ei : i = nc
    · subst ei; rw [up_same]; omega
    · rw [up_other _ _ ei]; exact h.pos i (by omega)
  · rcases old i j h1 h2 with ⟨a1, a2, a3⟩ | ⟨a0, a1, a2⟩ <;> rcases old i' j' h3 h4 with ⟨b1, b2, b3⟩ | ⟨b0, b1, b2⟩
    · rw [a3, b3]
      exact ⟨fun _ => rf, fun _ => by omega⟩
    · rw [a3, b2]
      exact ⟨fun e => by omega, fun e => absurd e (hr _ (h.el i' j' b0 b1))⟩
    · rw [a2, b3]
      have s1 : S' (cl i j) := (hS _).2 (.inl (h.el i j a0 a1))
      exact ⟨fun e => by omega, fun e => absurd (sy _ _ s1 ff e) (hr _ (h.el i j a0 a1))⟩
    · rw [a2, b2]
      exact h.eqv i j i' j' a0 a1 b0 b1
end
end Go.Proofs.Qxb6602148a
