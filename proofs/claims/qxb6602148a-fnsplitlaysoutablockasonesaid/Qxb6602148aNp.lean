/-
  PLAIN: 'newPartition': one component of every edge.
-/
import Derived.Test.Qxb6602148aNwb
attribute [local go_sem] Go.Proofs.Qxb6602148a.yTo Go.Proofs.Qxb6602148a.yUpon
namespace Go.Proofs.Qxb6602148a
set_option linter.unusedVariables false
set_option linter.unusedSimpArgs false

/-- Nodes before i are done; node i's edges before k have been looked at; m slots have been made. -/
structure NP (G : GR) (i k m : Nat) (P : PS) : Prop where
  nE : P.nE = G.E
  nS : P.nS = m
  node : ∀ s, s < m → P.node s = ((s : Nat) : Int)
  comp : ∀ s, s < m → P.comp s = 0
  idx : ∀ s, s < m → P.idx s = 0
  mark : ∀ s, s < m → P.mark s = 0
  nV : P.nV = G.n + 1
  first : ∀ u, u ≤ G.n → P.first u = ((G.fst u : Nat) : Int)
  nC : P.nC = 1
  mn : P.mn 0 = m
  mem : ∀ j, j < m → P.mem 0 j = ((j : Nat) : Int)
  nF : P.nF = 0
  nU : P.nU = 0
  nK : P.nK = 0
  nQ : P.nQ = 0
  marks : P.marks = 0
  e1 : ∀ v q, (v < i ∨ (v = i ∧ q < k)) → q < G.d v → G.t v q = v → P.fr (G.fst v + q) = -1 ∧ P.to (G.fst v + q) = -1
  e2 : ∀ v q, (v < i ∨ (v = i ∧ q < k)) → q < G.d v → G.t v q ≠ v → P.fr (G.fst v + q) = ((v : Nat) : Int) ∧ P.to (G.fst v + q) = ((G.t v q : Nat) : Int)
  o1 : ∀ s j, s < m → j < P.on s → ∃ q, q < G.d s ∧ (s < i ∨ (s = i ∧ q < k)) ∧ G.t s q ≠ s ∧ P.out s j = ((G.fst s + q : Nat) : Int)
  o2 : ∀ s q, s < m → q < G.d s → (s < i ∨ (s = i ∧ q < k)) → G.t s q ≠ s → ∃ j, j < P.on s ∧ P.out s j = ((G.fst s + q : Nat) : Int)
  o3 : ∀ s j j', s < m → j < j' → j' < P.on s → P.out s j < P.out s j'

section
variable {G : GR} {i k m : Nat} {P : PS}

theorem NP.start (G : GR) : NP G 0 0 0 (PN0 G) := by
  refine ⟨rfl, rfl, fun s hs => by omega, fun s hs => by omega, fun s hs => by omega, fun s hs => by omega, rfl, fun u hu => if_pos hu, rfl, rfl, fun j hj => by omega, rfl, rfl, rfl, rfl, rfl, fun v q h => by omega, fun v q h => by omega, fun s j hs => by omega, fun s q hs => by omega, fun s j j' hs => by omega⟩

theorem NP.slotNo (h : NP G i k m P) : P.slotNo = m := by
  unfold PS.slotNo
  rw [if_pos h.nF]; exact h.nS
theorem NP.slot (h : NP G i 0 i P) : NP G i 0 (i + 1) (P.newSlot ((i : Nat) : Int) 0) := by
  obtain ⟨a1, a2, a3, a4, a5, a6, a7, a8, a9, a10, a11, a12, a13⟩ := P.newSlot_facts ((i : Nat) : Int) 0
  obtain ⟨b1, b2, b3, b4, b5, b6, b7, b8, b9⟩ := P.newSlot_slot ((i : Nat) : Int) 0
  have sn := h.slotNo
  have fst : (P.newSlot ((i : Nat) : Int) 0).first = P.first ∧ (P.newSlot ((i : Nat) : Int) 0).nV = P.nV := by
    unfold PS.newSlot; split <;> exact ⟨rfl, rfl⟩
  have nF := h.nF
  have mn0 := h.mn
  refine ⟨a1.trans h.nE, by rw [a5, h.nS, nF], fun s hs => ?_, fun s hs => ?_, fun s hs => ?_, fun s hs => ?_, fst.2.trans h.nV, fun u hu => by rw [fst.1]; exact h.first u hu, a8.trans h.nC, by rw [b8, upn_same, mn0], fun j hj => ?_, by rw [a4, nF], a7.trans h.nU, a2.trans h.nK, a3.trans h.nQ, a13.trans h.marks, fun v q hv hq ht => by rw [a10, a11]; exact h.e1 v q hv hq ht, fun v q hv hq ht => by rw [a10, a11]; exact h.e2 v q hv hq ht, fun s j hs hj => ?_, fun s q hs hq hb ht => ?_, fun s j j' hs hjj hj' => ?_⟩
  · rw [b1, sn]
    by_cases e : s = i
    · subst e; rw [upd_same]
    · rw [upd_other _ _ e]; exact h.node s (by omega)
  · rw [b2, sn]
    by_cases e : s = i
    · subst e; rw [upd_same]; rfl
    · rw [upd_other _ _ e]; exact h.comp s (by omega)
  · rw [b3, sn]
    by_cases e : s = i
    · subst e; rw [upd_same]
    · rw [upd_other _ _ e]; exact h.idx s (by omega)
  · rw [b4, sn]
    by_cases e : s = i
    · subst e; rw [upd_same]
    · rw [upd_other _ _ e]; exact h.mark s (by omega)
  · rw [b9, sn, mn0]
    show (if 0 = 0 then upd (P.mem 0) i ((i : Nat) : Int) else P.mem 0) j = _
    rw [if_pos rfl]
    by_cases e : j = i
    · subst e; rw [upd_same]
    · rw [upd_other _ _ e]; exact h.mem j (by omega)
  · rw [b6, sn] at hj
    rw [b7]
    by_cases e : s = i
    · subst e; rw [upn_same] at hj; omega
    · rw [upn_other _ _ e] at hj; exact h.o1 s j (by omega) hj
  · rw [b6, sn, b7]
    by_cases e : s = i
    · omega
    · rw [upn_other _ _ e]; exact h.o2 s q (by omega) hq hb ht
  · rw [b6, sn] at hj'
    rw [b7]
    by_cases e : s = i
    · subst e; rw [upn_same] at hj'; omega
    · rw [upn_other _ _ e] at hj'; exact h.o3 s j j' (by omega) hjj hj'
theorem NP.next (h : NP G i (G.d i) (i + 1) P) : NP G (i + 1) 0 (i + 1) P := by
  have c : ∀ v q, q < G.d v → ((v < i + 1 ∨ (v = i + 1 ∧ q < 0)) ↔ (v < i ∨ (v = i ∧ q < G.d i))) := by
    intro v q hq
    constructor
    · rintro (h1 | h1)
      · by_cases e : v = i
        · subst e; exact .inr ⟨rfl, hq⟩
        · exact .inl (by omega)
      · omega
    · omega
  refine ⟨h.nE, h.nS, h.node, h.comp, h.idx, h.mark, h.nV, h.first, h.nC, h.mn, h.mem, h.nF, h.nU, h.nK, h.nQ, h.marks, fun v q hv hq ht => h.e1 v q ((c v q hq).1 hv) hq ht, fun v q hv hq ht => h.e2 v q ((c v q hq).1 hv) hq ht, fun s j hs hj => ?_, fun s q hs hq hb ht => h.o2 s q hs hq ((c s q hq).1 hb) ht, h.o3⟩
  obtain ⟨q, q1, q2, q3, q4⟩ := h.o1 s j hs hj
  exact ⟨q, q1, (c s q q1).2 q2, q3, q4⟩
theorem NP.nospace (hk : k < G.d i) {v q : Nat} (hv : v < i ∨ (v = i ∧ q < k)) (hq : q < G.d v) : G.fst v + q ≠ G.fst i + k := by
  intro e
  have := G.fst_inj hq hk e
  omega
theorem NP.self (h : NP G i k (i + 1) P) (hk : k < G.d i) (ht : G.t i k = i) : NP G i (k + 1) (i + 1) (P.unmove (G.fst i + k)) := by
  have c : ∀ v q, (v < i ∨ (v = i ∧ q < k + 1)) → (v < i ∨ (v = i ∧ q < k)) ∨ (v = i ∧ q = k) := by intro v q; omega
  refine ⟨h.nE, h.nS, h.node, h.comp, h.idx, h.mark, h.nV, h.first, h.nC, h.mn, h.mem, h.nF, h.nU, h.nK, h.nQ, h.marks, fun v q hv hq htv => ?_, fun v q hv hq htv => ?_, fun s j hs hj => ?_, fun s q hs hq hb htv => ?_, h.o3⟩
  · show upd P.fr _ (-1) _ = -1 ∧ upd P.to _ (-1) _ = -1
    rcases c v q hv with h1 | ⟨rfl, rfl⟩
    · rw [upd_other _ _ (nospace hk h1 hq), upd_other _ _ (nospace hk h1 hq)]; exact h.e1 v q h1 hq htv
    · rw [upd_same, upd_same]; exact ⟨rfl, rfl⟩
  · show upd P.fr _ (-1) _ = _ ∧ upd P.to _ (-1) _ = _
    rcases c v q hv with h1 | ⟨rfl, rfl⟩
    · rw [upd_other _ _ (nospace hk h1 hq), upd_other _ _ (nospace hk h1 hq)]; exact h.e2 v q h1 hq htv
    · exact absurd ht htv
  · obtain ⟨q, q1, q2, q3, q4⟩ := h.o1 s j hs hj
    exact ⟨q, q1, by omega, q3, q4⟩
  · rcases c s q hb with h1 | ⟨rfl, rfl⟩
    · exact h.o2 s q hs hq h1 htv
    · exact absurd ht htv
end
/-- An edge is laid. -/
def PS.edge (P : PS) (e : Nat) (f t : Int) : PS := ((P.unmove e).move e f t)
section
variable {G : GR} {i k m : Nat} {P : PS}
theorem NP.other (h : NP G i k (i + 1) P) (hk : k < G.d i) (ht : G.t i k ≠ i) : NP G i (k + 1) (i + 1) ((P.edge (G.fst i + k) ((i : Nat) : Int) ((G.t i k : Nat) : Int)).pushOut i ((G.fst i + k : Nat) : Int)) := by
  have c : ∀ v q, (v < i ∨ (v = i ∧ q < k + 1)) → (v < i ∨ (v = i ∧ q < k)) ∨ (v = i ∧ q = k) := by intro v q; omega
  have fo : ∀ x, x ≠ G.fst i + k → ((P.edge (G.fst i + k) ((i : Nat) : Int) ((G.t i k : Nat) : Int)).pushOut i ((G.fst i + k : Nat) : Int)).fr x = P.fr x ∧ ((P.edge (G.fst i + k) ((i : Nat) : Int) ((G.t i k : Nat) : Int)).pushOut i ((G.fst i + k : Nat) : Int)).to x = P.to x := by
    intro x hx
    refine ⟨?_, ?_⟩
    · show upd (upd P.fr _ (-1)) _ _ x = _; rw [upd_other _ _ hx, upd_other _ _ hx]
    · show upd (upd P.to _ (-1)) _ _ x = _; rw [upd_other _ _ hx, upd_other _ _ hx]
  have on' : ∀ s, ((P.edge (G.fst i + k) ((i : Nat) : Int) ((G.t i k : Nat) : Int)).pushOut i ((G.fst i + k : Nat) : Int)).on s = upn P.on i (P.on i + 1) s := fun s => rfl
  have out' : ∀ s j, ((P.edge (G.fst i + k) ((i : Nat) : Int) ((G.t i k : Nat) : Int)).pushOut i ((G.fst i + k : Nat) : Int)).out s j = (if s = i then upd (P.out i) (P.on i) ((G.fst i + k : Nat) : Int) else P.out s) j := fun s j => rfl
  refine ⟨h.nE, h.nS, h.node, h.comp, h.idx, h.mark, h.nV, h.first, h.nC, h.mn, h.mem, h.nF, h.nU, h.nK, h.nQ, h.marks, fun v q hv hq htv => ?_, fun v q hv hq htv => ?_, fun s j hs hj => ?_, fun s q hs hq hb htv => ?_, fun s j j' hs hjj hj' => ?_⟩
  · rcases c v q hv with h1 | ⟨rfl, rfl⟩
    · obtain ⟨f1, f2⟩ := fo _ (NP.nospace hk h1 hq)
      rw [f1, f2]; exact h.e1 v q h1 hq htv
    · exact absurd htv ht
  · rcases c v q hv with h1 | ⟨rfl, rfl⟩
    · obtain ⟨f1, f2⟩ := fo _ (NP.nospace hk h1 hq)
      rw [f1, f2]; exact h.e2 v q h1 hq htv
    · refine ⟨?_, ?_⟩
      · show upd (upd P.fr _ (-1)) _ _ _ = _; rw [upd_same]
      · show upd (upd P.to _ (-1)) _ _ _ = _; rw [upd_same]
  · rw [on'] at hj
    rw [out']
    by_cases e : s = i
    · subst e
      rw [upn_same] at hj
      rw [if_pos rfl]
      by_cases ej : j = P.on s
      · subst ej
        rw [upd_same]
        exact ⟨k, hk, by omega, ht, rfl⟩
      · rw [upd_other _ _ ej]
        obtain ⟨q, q1, q2, q3, q4⟩ := h.o1 s j hs (by omega)
        exact ⟨q, q1, by omega, q3, q4⟩
    · rw [upn_other _ _ e] at hj
      rw [if_neg e]
      obtain ⟨q, q1, q2, q3, q4⟩ := h.o1 s j hs hj
      exact ⟨q, q1, by omega, q3, q4⟩
  · by_cases e : s = i
    · subst e
      rcases c s q hb with h1 | ⟨_, rfl⟩
      · obtain ⟨j, j1, j2⟩ := h.o2 s q hs hq h1 htv
        refine ⟨j, by rw [on', upn_same]; omega, ?_⟩
        rw [out', if_pos rfl, upd_other _ _ (by omega)]; exact j2
      · refine ⟨P.on s, by rw [on', upn_same]; omega, ?_⟩
        rw [out', if_pos rfl, upd_same]
    · rcases c s q hb with h1 | ⟨h1, _⟩
      · obtain ⟨j, j1, j2⟩ := h.o2 s q hs hq h1 htv
        refine ⟨j, by rw [on', upn_other _ _ e]; exact j1, ?_⟩
        rw [out', if_neg e]; exact j2
      · exact absurd h1 e
  · rw [on'] at hj'
    rw [out', out']
    by_cases e : s = i
    · subst e
      rw [upn_same] at hj'
      rw [if_pos rfl]
      by_cases ej : j' = P.on s
      · subst ej
        rw [upd_same, upd_other _ _ (by omega)]
        obtain ⟨q, q1, q2, q3, q4⟩ := h.o1 s j hs (by omega)
        rw [q4]
        omega
      · rw [upd_other _ _ (by omega), upd_other _ _ ej]
        exact h.o3 s j j' hs hjj (by omega)
    · rw [upn_other _ _ e] at hj'
      rw [if_neg e]
      exact h.o3 s j j' hs hjj hj'

/-- What 'divide' is handed then. -/
theorem NP.go (h : NP G G.n 0 G.n P) (ok : G.Ok) : DGo P 0 G.n (fun s => s) := by
  have b : ∀ v q, v < G.n → (v < G.n ∨ (v = G.n ∧ q < 0)) := fun v q hv => .inl hv
  refine ⟨by rw [h.nC]; omega, h.mn, h.mem, ok.n, by rw [h.nE]; exact ok.E, by rw [h.nS]; have := ok.n; omega, by rw [h.nC]; omega, fun j hj => by rw [h.nS]; exact hj, fun i j _ _ e => e, h.comp, fun v hv => h.idx v (by rw [h.nS] at hv; exact hv), fun j q hj hq => ?_, fun j q q' hj => h.o3 j q q' hj, h.nK, h.nQ, ?_, fun j i hj hi => by rw [h.nF] at hi; omega, fun i hi => by rw [h.nU] at hi; omega, fun j hj => by rw [h.nU] at hj; omega, by rw [h.marks]; omega, fun s hs => by rw [h.mark s (by rw [h.nS] at hs; exact hs), h.marks]; omega⟩
  · obtain ⟨r, r1, r2, r3, r4⟩ := h.o1 j q hj hq
    obtain ⟨f1, f2⟩ := h.e2 j r (b j r hj) r1 r3
    exact ⟨G.fst j + r, G.t j r, r4, by rw [h.nE]; exact G.fst_lt hj r1, f1, f2, ⟨G.t j r, ok.t j r hj r1, rfl⟩, r3⟩
  · exact ⟨fun j hj => by rw [h.nF] at hj; omega, fun i j hi => by rw [h.nF] at hi; omega, fun j hj => by rw [h.nU] at hj; omega, fun i j hi => by rw [h.nU] at hi; omega⟩
end
end Go.Proofs.Qxb6602148a
