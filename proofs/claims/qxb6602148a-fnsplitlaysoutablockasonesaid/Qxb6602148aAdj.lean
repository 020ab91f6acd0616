/-
  PLAIN: THE ENTRIES THAT 'split' SORTS BY NODE: counts, where each node's entries begin, and what they say once all are laid.
-/
import Derived.Test.Qxb6602148aHT
namespace Go.Proofs.Qxb6602148a
set_option linter.unusedVariables false

/-- N nodes; node i has dg i edges, the j-th is ed i j; those that are 'inE' lead to node lcl. -/
structure AG where
  N : Nat
  dg : Nat → Nat
  ed : Nat → Nat → Nat
  inE : Nat → Bool
  lcl : Nat → Nat

structure AG.Ok (G : AG) : Prop where
  inj : ∀ i j i' j', i < G.N → j < G.dg i → i' < G.N → j' < G.dg i' → G.ed i j = G.ed i' j' → i = i' ∧ j = j'
  lt : ∀ i j, i < G.N → j < G.dg i → G.inE (G.ed i j) = true → G.lcl (G.ed i j) < G.N ∧ G.lcl (G.ed i j) ≠ i

/-- What edge e of node i adds at node v. -/
def AG.one (G : AG) (i e v : Nat) : Nat := if G.inE e then (if v = i then 1 else 0) + (if v = G.lcl e then 1 else 0) else 0
def AG.cI (G : AG) (i : Nat) : Nat → Nat → Nat
  | 0, _ => 0
  | j + 1, v => G.cI i j v + G.one i (G.ed i j) v
def AG.c (G : AG) : Nat → Nat → Nat
  | 0, _ => 0
  | i + 1, v => G.c i v + G.cI i (G.dg i) v
def AG.cc (G : AG) (i j v : Nat) : Nat := G.c i v + G.cI i j v
def AG.st (G : AG) : Nat → Nat
  | 0 => 0
  | v + 1 => G.st v + G.c G.N v

theorem AG.cc_zero (G : AG) (i v : Nat) : G.cc i 0 v = G.c i v := rfl
theorem AG.cc_end (G : AG) (i v : Nat) : G.cc i (G.dg i) v = G.c (i + 1) v := rfl
theorem AG.cc_succ (G : AG) (i j v : Nat) : G.cc i (j + 1) v = G.cc i j v + G.one i (G.ed i j) v := by
  show G.c i v + (G.cI i j v + _) = _
  unfold AG.cc; omega
theorem AG.cI_mono (G : AG) (i v : Nat) {j j' : Nat} (h : j ≤ j') : G.cI i j v ≤ G.cI i j' v := by
  induction h with
  | refl => exact Nat.le_refl _
  | step _ ih => exact Nat.le_trans ih (Nat.le_add_right _ _)
theorem AG.c_mono (G : AG) (v : Nat) {i i' : Nat} (h : i ≤ i') : G.c i v ≤ G.c i' v := by
  induction h with
  | refl => exact Nat.le_refl _
  | step _ ih => exact Nat.le_trans ih (Nat.le_add_right _ _)
theorem AG.cc_le (G : AG) {i j : Nat} (v : Nat) (hi : i < G.N) (hj : j ≤ G.dg i) : G.cc i j v ≤ G.c G.N v := by
  have h1 := G.cI_mono i v hj
  have h2 := G.c_mono v (show i + 1 ≤ G.N by omega)
  have h3 : G.c (i + 1) v = G.c i v + G.cI i (G.dg i) v := rfl
  unfold AG.cc; omega
theorem AG.st_mono (G : AG) (v : Nat) : G.st v ≤ G.st (v + 1) := Nat.le_add_right _ _
theorem AG.st_le (G : AG) {v v' : Nat} (h : v ≤ v') : G.st v ≤ G.st v' := by
  induction h with
  | refl => exact Nat.le_refl _
  | step _ ih => exact Nat.le_trans ih (G.st_mono _)

/-- The pair (i', j') comes before (i, j). -/
def bef (i' j' i j : Nat) : Prop := i' < i ∨ (i' = i ∧ j' < j)

/-- What has been laid when the search stands at the j-th edge of node i: node v's entries stand at G.st v .. G.st v + G.cc i j v - 1. -/
structure Filled (G : AG) (i j : Nat) (eN eE : Nat → Nat) : Prop where
  e1 : ∀ v q, v < G.N → G.st v ≤ q → q < G.st v + G.cc i j v → ∃ i' j', bef i' j' i j ∧ i' < G.N ∧ j' < G.dg i' ∧ G.inE (G.ed i' j') = true ∧ eE q = G.ed i' j' ∧ ((v = i' ∧ eN q = G.lcl (G.ed i' j')) ∨ (v = G.lcl (G.ed i' j') ∧ eN q = i'))
  e2 : ∀ i' j', bef i' j' i j → i' < G.N → j' < G.dg i' → G.inE (G.ed i' j') = true → (∃ q, G.st i' ≤ q ∧ q < G.st i' + G.cc i j i' ∧ eE q = G.ed i' j' ∧ eN q = G.lcl (G.ed i' j')) ∧
    (∃ q, G.st (G.lcl (G.ed i' j')) ≤ q ∧ q < G.st (G.lcl (G.ed i' j')) + G.cc i j (G.lcl (G.ed i' j')) ∧ eE q = G.ed i' j' ∧ eN q = i')
  e3 : ∀ v q q', v < G.N → G.st v ≤ q → q < G.st v + G.cc i j v → G.st v ≤ q' → q' < G.st v + G.cc i j v → eE q = eE q' → q = q'

section
variable {G : AG} {i j : Nat} {eN eE : Nat → Nat}

theorem Filled.init (G : AG) (eN eE : Nat → Nat) : Filled G 0 0 eN eE := by
  have h0 : ∀ v, G.cc 0 0 v = 0 := fun v => rfl
  refine ⟨?_, ?_, ?_⟩
  · intro v q _ h1 h2; rw [h0] at h2; omega
  · intro i' j' hb; unfold bef at hb; omega
  · intro v q q' _ h1 h2; rw [h0] at h2; omega

theorem Filled.next (h : Filled G i (G.dg i) eN eE) : Filled G (i + 1) 0 eN eE := by
  have hc : ∀ v, G.cc (i + 1) 0 v = G.cc i (G.dg i) v := fun v => rfl
  have hb : ∀ i' j', i' < G.N → j' < G.dg i' → (bef i' j' (i + 1) 0 ↔ bef i' j' i (G.dg i)) := by
    intro i' j' _ hj
    unfold bef
    constructor
    · intro hh
      rcases Nat.lt_or_ge i' i with hlt | hge
      · exact .inl hlt
      · have : i' = i := by omega
        exact .inr ⟨this, by rw [← this]; exact hj⟩
    · intro hh; omega
  refine ⟨?_, ?_, ?_⟩
  · intro v q hv h1 h2
    rw [hc] at h2
    obtain ⟨i', j', b, h3, h4, h5⟩ := h.e1 v q hv h1 h2
    exact ⟨i', j', (hb i' j' h3 h4).2 b, h3, h4, h5⟩
  · intro i' j' b h3 h4 h5
    rw [hc, hc]
    exact h.e2 i' j' ((hb i' j' h3 h4).1 b) h3 h4 h5
  · intro v q q' hv h1 h2 h3 h4
    rw [hc] at h2 h4
    exact h.e3 v q q' hv h1 h2 h3 h4

/-- An edge that does not take part. -/
theorem Filled.skip (h : Filled G i j eN eE) (hn : G.inE (G.ed i j) = false) : Filled G i (j + 1) eN eE := by
  have hc : ∀ v, G.cc i (j + 1) v = G.cc i j v := fun v => by rw [G.cc_succ]; unfold AG.one; rw [hn]; simp
  refine ⟨?_, ?_, ?_⟩
  · intro v q hv h1 h2
    rw [hc] at h2
    obtain ⟨i', j', b, h5⟩ := h.e1 v q hv h1 h2
    exact ⟨i', j', by unfold bef at b ⊢; omega, h5⟩
  · intro i' j' b h3 h4 h5
    rw [hc, hc]
    refine h.e2 i' j' ?_ h3 h4 h5
    unfold bef at b ⊢
    rcases b with b | ⟨b1, b2⟩
    · exact .inl b
    · refine .inr ⟨b1, ?_⟩
      have : j' ≠ j := fun e => by rw [b1, e, hn] at h5; cases h5
      omega
  · intro v q q' hv h1 h2 h3 h4
    rw [hc] at h2 h4
    exact h.e3 v q q' hv h1 h2 h3 h4

/-- An edge is laid at both its ends. -/
theorem Filled.put (ok : G.Ok) (h : Filled G i j eN eE) (hi : i < G.N) (hj : j < G.dg i) (hn : G.inE (G.ed i j) = true) :
    Filled G i (j + 1) (up (up eN (G.st i + G.cc i j i) (G.lcl (G.ed i j))) (G.st (G.lcl (G.ed i j)) + G.cc i j (G.lcl (G.ed i j))) i) (up (up eE (G.st i + G.cc i j i) (G.ed i j)) (G.st (G.lcl (G.ed i j)) + G.cc i j (G.lcl (G.ed i j))) (G.ed i j)) := by
  obtain ⟨l1, l2⟩ := ok.lt i j hi hj hn
  generalize hl : G.lcl (G.ed i j) = l at *
  generalize hp : G.st i + G.cc i j i = p at *
  generalize hq : G.st l + G.cc i j l = r at *
  have one : ∀ v, G.one i (G.ed i j) v = (if v = i then 1 else 0) + (if v = l then 1 else 0) := fun v => by unfold AG.one; rw [hn, if_pos rfl, hl]
  have ci : G.cc i (j + 1) i = G.cc i j i + 1 := by rw [G.cc_succ, one, if_pos rfl, if_neg (Ne.symm l2)]
  have cl : G.cc i (j + 1) l = G.cc i j l + 1 := by rw [G.cc_succ, one, if_pos rfl, if_neg l2]
  have co : ∀ v, v ≠ i → v ≠ l → G.cc i (j + 1) v = G.cc i j v := fun v h1 h2 => by rw [G.cc_succ, one, if_neg h1, if_neg h2]; rfl
  have cm : ∀ v, G.cc i j v ≤ G.cc i (j + 1) v := fun v => by rw [G.cc_succ]; omega
  have le : ∀ v, G.st v + G.cc i (j + 1) v ≤ G.st (v + 1) := fun v => by
    have := G.cc_le v hi (show j + 1 ≤ G.dg i by omega)
    show _ ≤ G.st v + G.c G.N v
    omega
  -- where a place lies, tells the node
  have apart : ∀ v v' x, G.st v ≤ x → x < G.st v + G.cc i (j + 1) v → G.st v' ≤ x → x < G.st v' + G.cc i (j + 1) v' → v = v' := by
    intro v v' x a1 a2 b1 b2
    have e1 := le v
    have e2 := le v'
    rcases Nat.lt_trichotomy v v' with hlt | heq | hgt
    · have := G.st_le (show v + 1 ≤ v' by omega); omega
    · exact heq
    · have := G.st_le (show v' + 1 ≤ v by omega); omega
  have pr : p ≠ r := by
    intro e
    have := apart i l p (by omega) (by rw [ci]; omega) (by omega) (by rw [cl]; omega)
    omega
  -- an old place is neither of the two new ones
  have old : ∀ v x, v < G.N → G.st v ≤ x → x < G.st v + G.cc i j v → x ≠ p ∧ x ≠ r := by
    intro v x hv a1 a2
    have m := cm v
    refine ⟨fun e => ?_, fun e => ?_⟩
    · have := apart v i x a1 (by omega) (by omega) (by rw [ci]; omega)
      subst this; omega
    · have := apart v l x a1 (by omega) (by omega) (by rw [cl]; omega)
      subst this; omega
  have fN : ∀ x, x ≠ p → x ≠ r → up (up eN p l) r i x = eN x := fun x h1 h2 => by rw [up_other _ _ h2, up_other _ _ h1]
  have fE : ∀ x, x ≠ p → x ≠ r → up (up eE p (G.ed i j)) r (G.ed i j) x = eE x := fun x h1 h2 => by rw [up_other _ _ h2, up_other _ _ h1]
  have pN : up (up eN p l) r i p = l := by rw [up_other _ _ pr, up_same]
  have pE : up (up eE p (G.ed i j)) r (G.ed i j) p = G.ed i j := by rw [up_other _ _ pr, up_same]
  have rN : up (up eN p l) r i r = i := up_same _ _ _
  have rE : up (up eE p (G.ed i j)) r (G.ed i j) r = G.ed i j := up_same _ _ _
  -- a place of node v: old, or new
  have cases : ∀ v x, v < G.N → G.st v ≤ x → x < G.st v + G.cc i (j + 1) v → x < G.st v + G.cc i j v ∨ (v = i ∧ x = p) ∨ (v = l ∧ x = r) := by
    intro v x hv a1 a2
    by_cases e1 : v = i
    · subst e1; rw [ci] at a2; omega
    · by_cases e2 : v = l
      · subst e2; rw [cl] at a2; omega
      · rw [co v e1 e2] at a2; exact .inl a2
  -- the new edge is none of the old ones
  have fresh : ∀ v x, v < G.N → G.st v ≤ x → x < G.st v + G.cc i j v → eE x ≠ G.ed i j := by
    intro v x hv a1 a2 e
    obtain ⟨i', j', b, h3, h4, h5, h6, _⟩ := h.e1 v x hv a1 a2
    rw [h6] at e
    obtain ⟨e1, e2⟩ := ok.inj i' j' i j h3 h4 hi hj e
    unfold bef at b; omega
  refine ⟨?_, ?_, ?_⟩
  · intro v x hv a1 a2
    rcases cases v x hv a1 a2 with a3 | ⟨rfl, rfl⟩ | ⟨rfl, rfl⟩
    · obtain ⟨o1, o2⟩ := old v x hv a1 a3
      rw [fN x o1 o2, fE x o1 o2]
      obtain ⟨i', j', b, h5⟩ := h.e1 v x hv a1 a3
      exact ⟨i', j', by unfold bef at b ⊢; omega, h5⟩
    · rw [pN, pE]
      exact ⟨v, j, by unfold bef; omega, hi, hj, hn, rfl, .inl ⟨rfl, hl.symm⟩⟩
    · rw [rN, rE]
      exact ⟨i, j, by unfold bef; omega, hi, hj, hn, rfl, .inr ⟨hl.symm, rfl⟩⟩
  · intro i' j' b h3 h4 h5
    by_cases e : i' = i ∧ j' = j
    · obtain ⟨rfl, rfl⟩ := e
      rw [hl]
      exact ⟨⟨p, by omega, by rw [ci]; omega, pE, pN⟩, ⟨r, by omega, by rw [cl]; omega, rE, rN⟩⟩
    · obtain ⟨⟨x, x1, x2, x3, x4⟩, ⟨y, y1, y2, y3, y4⟩⟩ := h.e2 i' j' (by unfold bef at b ⊢; omega) h3 h4 h5
      obtain ⟨o1, o2⟩ := old i' x h3 x1 x2
      obtain ⟨o3, o4⟩ := old _ y (ok.lt i' j' h3 h4 h5).1 y1 y2
      exact ⟨⟨x, x1, Nat.lt_of_lt_of_le x2 (by have := cm i'; omega), by rw [fE x o1 o2]; exact x3, by rw [fN x o1 o2]; exact x4⟩, ⟨y, y1, Nat.lt_of_lt_of_le y2 (by have := cm (G.lcl (G.ed i' j')); omega), by rw [fE y o3 o4]; exact y3, by rw [fN y o3 o4]; exact y4⟩⟩
  · intro v x y hv a1 a2 b1 b2 e
    rcases cases v x hv a1 a2 with a3 | ⟨ev, ex⟩ | ⟨ev, ex⟩ <;> rcases cases v y hv b1 b2 with b3 | ⟨ew, ey⟩ | ⟨ew, ey⟩
    · obtain ⟨o1, o2⟩ := old v x hv a1 a3
      obtain ⟨o3, o4⟩ := old v y hv b1 b3
      rw [fE x o1 o2, fE y o3 o4] at e
      exact h.e3 v x y hv a1 a3 b1 b3 e
    · obtain ⟨o1, o2⟩ := old v x hv a1 a3
      rw [fE x o1 o2, ey, pE] at e
      exact absurd e (fresh v x hv a1 a3)
    · obtain ⟨o1, o2⟩ := old v x hv a1 a3
      rw [fE x o1 o2, ey, rE] at e
      exact absurd e (fresh v x hv a1 a3)
    · obtain ⟨o1, o2⟩ := old v y hv b1 b3
      rw [fE y o1 o2, ex, pE] at e
      exact absurd e.symm (fresh v y hv b1 b3)
    · omega
    · omega
    · obtain ⟨o1, o2⟩ := old v y hv b1 b3
      rw [fE y o1 o2, ex, rE] at e
      exact absurd e.symm (fresh v y hv b1 b3)
    · omega
    · omega

def AG.ug (G : AG) (eN eE : Nat → Nat) : UG := { N := G.N, st := G.st, eN := eN, eE := eE }

/-- When all are laid. -/
theorem Filled.inc (h : Filled G G.N 0 eN eE) (a e b : Nat) : (G.ug eN eE).inc a e b ↔ a < G.N ∧ ∃ i j, i < G.N ∧ j < G.dg i ∧ G.inE (G.ed i j) = true ∧ e = G.ed i j ∧ ((a = i ∧ b = G.lcl (G.ed i j)) ∨ (a = G.lcl (G.ed i j) ∧ b = i)) := by
  have st1 : ∀ v, G.st (v + 1) = G.st v + G.cc G.N 0 v := fun v => rfl
  constructor
  · rintro ⟨ha, q, h1, h2, h3, h4⟩
    have h1 : G.st a ≤ q := h1
    have h2 : q < G.st (a + 1) := h2
    rw [st1] at h2
    obtain ⟨i', j', b', h5, h6, h7, h8, h9⟩ := h.e1 a q ha h1 h2
    have h3 : eN q = b := h3
    have h4 : eE q = e := h4
    refine ⟨ha, i', j', h5, h6, h7, h4.symm.trans h8, ?_⟩
    rw [← h3]; exact h9
  · rintro ⟨ha, i, j, h1, h2, h3, rfl, h4⟩
    obtain ⟨⟨x, x1, x2, x3, x4⟩, ⟨y, y1, y2, y3, y4⟩⟩ := h.e2 i j (.inl h1) h1 h2 h3
    refine ⟨ha, ?_⟩
    rcases h4 with ⟨rfl, rfl⟩ | ⟨rfl, rfl⟩
    · exact ⟨x, x1, by show x < G.st (a + 1); rw [st1]; exact x2, x4, x3⟩
    · exact ⟨y, y1, by show y < G.st (_ + 1); rw [st1]; exact y2, y4, y3⟩

theorem Filled.ok (ok : G.Ok) (h : Filled G G.N 0 eN eE) : (G.ug eN eE).Ok := by
  refine ⟨fun v => G.st_mono v, ?_, ?_, ?_, ?_⟩
  · intro a e b hi
    obtain ⟨ha, i, j, h1, h2, h3, h4, h5⟩ := (h.inc a e b).1 hi
    obtain ⟨l1, l2⟩ := ok.lt i j h1 h2 h3
    rcases h5 with ⟨rfl, rfl⟩ | ⟨rfl, rfl⟩
    · exact ⟨l1, l2⟩
    · exact ⟨h1, Ne.symm l2⟩
  · intro a e b hi
    obtain ⟨ha, i, j, h1, h2, h3, h4, h5⟩ := (h.inc a e b).1 hi
    obtain ⟨l1, l2⟩ := ok.lt i j h1 h2 h3
    refine (h.inc b e a).2 ?_
    rcases h5 with ⟨rfl, rfl⟩ | ⟨rfl, rfl⟩
    · exact ⟨l1, a, j, h1, h2, h3, h4, .inr ⟨rfl, rfl⟩⟩
    · exact ⟨h1, b, j, h1, h2, h3, h4, .inl ⟨rfl, rfl⟩⟩
  · intro v q q' hv h1 h2 h3 h4 he
    exact h.e3 v q q' hv h1 h2 h3 h4 he
  · intro a e b a' b' hi hi'
    obtain ⟨ha, i, j, h1, h2, h3, h4, h5⟩ := (h.inc a e b).1 hi
    obtain ⟨ha', i', j', h1', h2', h3', h4', h5'⟩ := (h.inc a' e b').1 hi'
    obtain ⟨rfl, rfl⟩ := ok.inj i j i' j' h1 h2 h1' h2' (h4.symm.trans h4')
    rcases h5 with ⟨rfl, rfl⟩ | ⟨rfl, rfl⟩ <;> rcases h5' with ⟨rfl, rfl⟩ | ⟨rfl, rfl⟩ <;> simp
end
end Go.Proofs.Qxb6602148a
