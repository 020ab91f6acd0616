/-
  PLAIN: the model's reachability (a search from every node).
-/
import Derived.Test.Qxb6602148aMdc
attribute [local go_sem] Go.Proofs.Qxb6602148a.yTo Go.Proofs.Qxb6602148a.yUpon
namespace Go.Proofs.Qxb6602148a
set_option linter.unusedVariables false
set_option linter.unusedSimpArgs false

/-- Some edge leads from a to b. -/
def GR.adj (G : GR) (a b : Nat) : Prop := ∃ e, e < G.E ∧ G.sr e = a ∧ G.ds e = b
theorem GR.adj_at (G : GR) {v k : Nat} (hv : v < G.n) (hk : k < G.d v) : G.adj v (G.t v k) := ⟨G.fst v + k, G.fst_lt hv hk, G.sr_at hv hk, G.ds_at hv hk⟩
theorem GR.adj_of (G : GR) {a b : Nat} (h : G.adj a b) : ∃ k, a < G.n ∧ k < G.d a ∧ G.t a k = b := by
  obtain ⟨e, he, h1, h2⟩ := h
  obtain ⟨v, k, hv, hk, rfl⟩ := G.at he
  rw [G.sr_at hv hk] at h1
  rw [G.ds_at hv hk] at h2
  subst h1
  exact ⟨k, hv, hk, h2⟩
theorem GR.adj_lt (G : GR) (ok : G.Ok) {a b : Nat} (h : G.adj a b) : b < G.n := by
  obtain ⟨e, he, h1, h2⟩ := h
  rw [← h2]; exact G.ds_lt ok he
theorem GR.rch_lt (G : GR) (ok : G.Ok) {a b : Nat} (ha : a < G.n) (h : Rch G.adj a b) : b < G.n := h (fun x => x < G.n) ha (fun x y _ r => G.adj_lt ok r)

def up2 (R : Nat → Nat → Bool) (u b : Nat) (x : Bool) : Nat → Nat → Bool := fun a c => if a = u ∧ c = b then x else R a c
theorem up2_same (R : Nat → Nat → Bool) (u b : Nat) (x : Bool) : up2 R u b x u b = x := by simp [up2]
theorem up2_other (R : Nat → Nat → Bool) {u b a c : Nat} (x : Bool) (h : ¬ (a = u ∧ c = b)) : up2 R u b x a c = R a c := by simp [up2, h]
theorem up2_true {R : Nat → Nat → Bool} {u b a c : Nat} (h : R a c = true) : up2 R u b true a c = true := by
  unfold up2; split
  · rfl
  · exact h
/-- A table of n rows of n, one behind the other. -/
def flat (n : Nat) (R : Nat → Nat → Bool) : Nat → Bool := fun j => R (j / n) (j % n)
theorem flat_at (n : Nat) (R : Nat → Nat → Bool) (a : Nat) {b : Nat} (hb : b < n) : flat n R (a * n + b) = R a b := by
  have h1 : (a * n + b) / n = a := by
    rw [Nat.mul_comm, Nat.mul_add_div (by omega), Nat.div_eq_of_lt hb, Nat.add_zero]
  have h2 : (a * n + b) % n = b := by
    rw [Nat.mul_comm, Nat.mul_add_mod, Nat.mod_eq_of_lt hb]
  unfold flat
  rw [h1, h2]
theorem flat_up (n : Nat) (R : Nat → Nat → Bool) (u : Nat) {b : Nat} (hb : b < n) (x : Bool) : upb (flat n R) (u * n + b) x = flat n (up2 R u b x) := by
  funext j
  have hj : j = (j / n) * n + j % n := by rw [Nat.mul_comm]; exact (Nat.div_add_mod j n).symm
  have hm : j % n < n := Nat.mod_lt _ (by omega)
  have e : flat n (up2 R u b x) j = up2 R u b x (j / n) (j % n) := rfl
  rw [e]
  by_cases h : j / n = u ∧ j % n = b
  · obtain ⟨h1, h2⟩ := h
    have : j = u * n + b := by rw [← h1, ← h2]; exact hj
    rw [h1, h2, up2_same, this, upb_same]
  · rw [up2_other _ _ h]
    refine upb_other _ _ (fun e2 => h ?_)
    subst e2
    have h1 : (u * n + b) / n = u := by rw [Nat.mul_comm, Nat.mul_add_div (by omega), Nat.div_eq_of_lt hb, Nat.add_zero]
    have h2 : (u * n + b) % n = b := by rw [Nat.mul_comm, Nat.mul_add_mod, Nat.mod_eq_of_lt hb]
    exact ⟨h1, h2⟩

/-- Rows before u are as they shall be; the others are empty. -/
structure RS (G : GR) (u : Nat) (R : Nat → Nat → Bool) : Prop where
  old : ∀ a b, a < u → b < G.n → (R a b = true ↔ Rch G.adj a b)
  new : ∀ a b, u ≤ a → R a b = false
/-- The search from u: Q 0 .. Q (t - 1) have been found. -/
structure BB (G : GR) (u : Nat) (R : Nat → Nat → Bool) (Q : Nat → Nat) (t : Nat) : Prop where
  old : ∀ a b, a < u → b < G.n → (R a b = true ↔ Rch G.adj a b)
  new : ∀ a b, u < a → R a b = false
  row : ∀ b, b < G.n → (R u b = true ↔ ∃ j, j < t ∧ Q j = b)
  ql : ∀ j, j < t → Q j < G.n
  inj : ∀ j j', j < t → j' < t → Q j = Q j' → j = j'
  rch : ∀ j, j < t → Rch G.adj u (Q j)
  t1 : 1 ≤ t
/-- Whatever the nodes before the h-th lead to has been found. -/
def BC (G : GR) (u : Nat) (R : Nat → Nat → Bool) (Q : Nat → Nat) (h : Nat) : Prop := ∀ j k, j < h → k < G.d (Q j) → R u (G.t (Q j) k) = true

theorem RS.zero (G : GR) : RS G 0 (fun _ _ => false) := ⟨fun a b h => absurd h (Nat.not_lt_zero _), fun _ _ _ => rfl⟩
theorem RS.start {G : GR} {u : Nat} {R : Nat → Nat → Bool} {Q : Nat → Nat} (h : RS G u R) (hu : u < G.n) : BB G u (up2 R u u true) (up Q 0 u) 1 where
  old a b ha hb := by rw [up2_other _ _ (by omega)]; exact h.old a b ha hb
  new a b ha := by rw [up2_other _ _ (by omega)]; exact h.new a b (by omega)
  row b hb := by
    by_cases e : b = u
    · subst e; rw [up2_same]
      exact ⟨fun _ => ⟨0, by omega, up_same _ _ _⟩, fun _ => rfl⟩
    · rw [up2_other _ _ (fun h => e h.2), h.new u b (Nat.le_refl _)]
      constructor
      · intro h; exact absurd h (by decide)
      · rintro ⟨j, hj, hq⟩
        obtain rfl : j = 0 := by omega
        rw [up_same] at hq
        exact absurd hq.symm e
  ql j hj := by
    obtain rfl : j = 0 := by omega
    rw [up_same]; exact hu
  inj j j' h1 h2 _ := by omega
  rch j hj := by
    obtain rfl : j = 0 := by omega
    rw [up_same]; exact Rch.refl _ _
  t1 := Nat.le_refl _
theorem BB.le {G : GR} {u t : Nat} {R : Nat → Nat → Bool} {Q : Nat → Nat} (h : BB G u R Q t) : t ≤ G.n := pigeon G.n t Q h.ql h.inj
theorem BB.add {G : GR} {u t x k : Nat} {R : Nat → Nat → Bool} {Q : Nat → Nat} (ok : G.Ok) (h : BB G u R Q t) (hx : ∃ j, j < t ∧ Q j = x) (hk : k < G.d x) (hn : R u (G.t x k) = false) : BB G u (up2 R u (G.t x k) true) (up Q t (G.t x k)) (t + 1) where
  old a b ha hb := by rw [up2_other _ _ (by omega)]; exact h.old a b ha hb
  new a b ha := by rw [up2_other _ _ (by omega)]; exact h.new a b (by omega)
  row b hb := by
    by_cases e : b = G.t x k
    · subst e; rw [up2_same]
      exact ⟨fun _ => ⟨t, by omega, up_same _ _ _⟩, fun _ => rfl⟩
    · rw [up2_other _ _ (fun h => e h.2), h.row b hb]
      constructor
      · rintro ⟨j, hj, hq⟩
        exact ⟨j, by omega, by rw [up_other _ _ (by omega)]; exact hq⟩
      · rintro ⟨j, hj, hq⟩
        by_cases ej : j = t
        · subst ej; rw [up_same] at hq; exact absurd hq.symm e
        · rw [up_other _ _ ej] at hq; exact ⟨j, by omega, hq⟩
  ql j hj := by
    obtain ⟨i, hi, rfl⟩ := hx
    by_cases ej : j = t
    · subst ej; rw [up_same]; exact ok.t _ _ (h.ql i hi) hk
    · rw [up_other _ _ ej]; exact h.ql j (by omega)
  inj j j' h1 h2 he := by
    have key : ∀ j, j < t → Q j ≠ G.t x k := fun j hj e => by
      have := (h.row (G.t x k) (by rw [← e]; exact h.ql j hj)).2 ⟨j, hj, e⟩
      rw [hn] at this; cases this
    by_cases e1 : j = t
    · by_cases e2 : j' = t
      · omega
      · subst e1
        rw [up_same, up_other _ _ e2] at he
        exact absurd he.symm (key j' (by omega))
    · by_cases e2 : j' = t
      · subst e2
        rw [up_same, up_other _ _ e1] at he
        exact absurd he (key j (by omega))
      · rw [up_other _ _ e1, up_other _ _ e2] at he
        exact h.inj j j' (by omega) (by omega) he
  rch j hj := by
    obtain ⟨i, hi, rfl⟩ := hx
    by_cases ej : j = t
    · subst ej; rw [up_same]; exact (h.rch i hi).step (G.adj_at (h.ql i hi) hk)
    · rw [up_other _ _ ej]; exact h.rch j (by omega)
  t1 := by omega
theorem BC.add {G : GR} {u t x k h : Nat} {R : Nat → Nat → Bool} {Q : Nat → Nat} (hh : BC G u R Q h) (ht : h ≤ t) (b : Nat) : BC G u (up2 R u b true) (up Q t b) h := by
  intro j k hj hk
  rw [up_other _ _ (by omega)] at hk ⊢
  exact up2_true (hh j k hj hk)
theorem BB.done {G : GR} {u t : Nat} {R : Nat → Nat → Bool} {Q : Nat → Nat} (ok : G.Ok) (hu : u < G.n) (h : BB G u R Q t) (q0 : Q 0 = u) (hc : BC G u R Q t) : RS G (u + 1) R where
  old a b ha hb := by
    rcases Nat.lt_or_ge a u with h1 | h1
    · exact h.old a b h1 hb
    · obtain rfl : a = u := by omega
      constructor
      · intro hr
        obtain ⟨j, hj, hq⟩ := (h.row b hb).1 hr
        rw [← hq]; exact h.rch j hj
      · intro hr
        have t1 := h.t1
        have := hr (fun y => y < G.n ∧ R a y = true) ⟨hu, (h.row a hu).2 ⟨0, by omega, q0⟩⟩ (fun x y hx hxy => by
          obtain ⟨k, h2, hk, hy⟩ := G.adj_of hxy
          refine ⟨G.adj_lt ok hxy, ?_⟩
          obtain ⟨j, hj, hq⟩ := (h.row x hx.1).1 hx.2
          subst hq
          rw [← hy]
          exact hc j k hj hk)
        exact this.2
  new a b ha := h.new a b (by omega)
end Go.Proofs.Qxb6602148a
