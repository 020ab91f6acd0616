/-
  PLAIN: THE SEARCH FOR STRONGLY CONNECTED COMPONENTS (Tarjan's), as 'divide' carries it out: its state, what holds of it, and what each step does.
-/
import Derived.Test.Qxb6602148aHT
namespace Go.Proofs.Qxb6602148a
set_option linter.unusedVariables false

/-- A directed multigraph: the nodes that take part, and each node's targets. -/
structure DG where
  inA : Nat → Prop
  deg : Nat → Nat
  tgt : Nat → Nat → Nat

def DG.R (g : DG) (u v : Nat) : Prop := g.inA u ∧ g.inA v ∧ ∃ k, k < g.deg u ∧ g.tgt u k = v

/-- m: how many nodes the path has; nd: its nodes; sp: their places on the stack; h, st: the stack; lab: the number, from 1, of the component that a node was put in. -/
structure TS where
  m : Nat
  nd : Nat → Nat
  sp : Nat → Nat
  sc : Nat → Nat
  h : Nat
  st : Nat → Nat
  idx : Nat → Nat
  low : Nat → Nat
  vis : Nat
  lab : Nat → Nat
  nl : Nat

structure TInv (g : DG) (s : TS) : Prop where
  p1 : ∀ j, j < s.m → s.sp j < s.h ∧ s.st (s.sp j) = s.nd j
  p2 : ∀ i j, i < j → j < s.m → s.sp i < s.sp j
  p3 : 0 < s.m → s.sp 0 = 0
  p4 : s.m = 0 → s.h = 0
  s1 : ∀ i, i < s.h → g.inA (s.st i) ∧ s.lab (s.st i) = 0 ∧ s.idx (s.st i) ≠ 0
  s2 : ∀ i i', i < i' → i' < s.h → s.idx (s.st i) < s.idx (s.st i')
  s3 : ∀ v, s.idx v ≠ 0 → ∃ i, i < s.h ∧ s.st i = v
  s4 : ∀ v, s.idx v ≤ s.vis
  c0 : ∀ v, s.idx v = 0 → s.lab v = 0 → s.sc v = 0
  c1 : ∀ i, i < s.h → (∀ j, j < s.m → s.sp j ≠ i) → s.sc (s.st i) = g.deg (s.st i)
  c2 : ∀ i k, i < s.h → k < s.sc (s.st i) → g.inA (g.tgt (s.st i) k) → s.lab (g.tgt (s.st i) k) ≠ 0 ∨ s.idx (g.tgt (s.st i) k) ≠ 0
  t2 : ∀ j i, j < s.m → s.sp j ≤ i → i < s.h → Rch g.R (s.nd j) (s.st i)
  t3 : ∀ j i, j < s.m → s.sp j ≤ i → i < s.h → (j + 1 < s.m → i < s.sp (j + 1)) → Rch g.R (s.st i) (s.nd j)
  l1 : ∀ j, j < s.m → ∃ a, a ≤ s.sp j ∧ s.low (s.nd j) = s.idx (s.st a) ∧ Rch g.R (s.nd j) (s.st a)
  l2 : ∀ j i k, j < s.m → s.sp j ≤ i → i < s.h → (j + 1 < s.m → i < s.sp (j + 1)) → k < s.sc (s.st i) → g.inA (g.tgt (s.st i) k) → s.idx (g.tgt (s.st i) k) ≠ 0 → s.low (s.nd j) ≤ s.idx (g.tgt (s.st i) k)
  a1 : ∀ v, s.lab v ≠ 0 → g.inA v
  a2 : ∀ v v', s.lab v ≠ 0 → g.R v v' → s.lab v' ≠ 0
  a3 : ∀ v v', s.lab v ≠ 0 → s.lab v' ≠ 0 → (s.lab v = s.lab v' ↔ Rch g.R v v' ∧ Rch g.R v' v)
  a4 : ∀ v, s.lab v ≤ s.nl
  a5 : ∀ v, s.lab v ≠ 0 → s.idx v = 0

def TS.top (s : TS) : Nat := s.nd (s.m - 1)

section
variable {g : DG} {s : TS}

theorem TInv.st_inj (h : TInv g s) {i i' : Nat} (hi : i < s.h) (hi' : i' < s.h) (e : s.st i = s.st i') : i = i' := by
  rcases Nat.lt_trichotomy i i' with hlt | heq | hgt
  · have := h.s2 i i' hlt hi'; rw [e] at this; omega
  · exact heq
  · have := h.s2 i' i hgt hi; rw [e] at this; omega

theorem TInv.topf (h : TInv g s) (hm : 0 < s.m) : s.sp (s.m - 1) < s.h ∧ s.st (s.sp (s.m - 1)) = s.top ∧ g.inA s.top ∧ s.lab s.top = 0 ∧ s.idx s.top ≠ 0 := by
  obtain ⟨h1, h2⟩ := h.p1 (s.m - 1) (by omega)
  have := h.s1 _ h1
  rw [h2] at this
  exact ⟨h1, h2, this⟩

theorem TInv.sp_le (h : TInv g s) {i j : Nat} (hij : i ≤ j) (hj : j < s.m) : s.sp i ≤ s.sp j := by
  rcases Nat.lt_or_ge i j with hlt | hge
  · exact Nat.le_of_lt (h.p2 i j hlt hj)
  · rw [show i = j by omega]; omega

/-- Every place of the stack lies in the stretch of one node of the path. -/
theorem TInv.seg (h : TInv g s) {i : Nat} (hi : i < s.h) : ∃ j, j < s.m ∧ s.sp j ≤ i ∧ (j + 1 < s.m → i < s.sp (j + 1)) := by
  have hm : 0 < s.m := by
    rcases Nat.eq_zero_or_pos s.m with h0 | h0
    · have := h.p4 h0; omega
    · exact h0
  have : ∀ n, n < s.m → s.sp 0 ≤ i → (∃ j, j < n ∧ s.sp j ≤ i ∧ i < s.sp (j + 1)) ∨ s.sp n ≤ i := by
    intro n
    induction n with
    | zero => intro _ h0; exact .inr h0
    | succ n ih =>
      intro hn h0
      rcases ih (by omega) h0 with ⟨j, j1, j2, j3⟩ | hle
      · exact .inl ⟨j, by omega, j2, j3⟩
      · rcases Nat.lt_or_ge i (s.sp (n + 1)) with hlt | hge
        · exact .inl ⟨n, by omega, hle, hlt⟩
        · exact .inr hge
  rcases this (s.m - 1) (by omega) (by rw [h.p3 hm]; omega) with ⟨j, j1, j2, j3⟩ | hle
  · exact ⟨j, by omega, j2, fun _ => j3⟩
  · exact ⟨s.m - 1, by omega, hle, fun hh => by omega⟩

/-- The start: nothing visited. -/
def TS.init : TS := { m := 0, nd := fun _ => 0, sp := fun _ => 0, sc := fun _ => 0, h := 0, st := fun _ => 0, idx := fun _ => 0, low := fun _ => 0, vis := 0, lab := fun _ => 0, nl := 0 }

theorem TInv.init (g : DG) : TInv g TS.init where
  p1 j hj := absurd hj (by show ¬ j < 0; omega)
  p2 i j _ hj := absurd hj (by show ¬ j < 0; omega)
  p3 hj := absurd hj (by show ¬ 0 < 0; omega)
  p4 _ := rfl
  s1 i hi := absurd hi (by show ¬ i < 0; omega)
  s2 i j _ hj := absurd hj (by show ¬ j < 0; omega)
  s3 v hv := absurd rfl hv
  s4 v := Nat.le_refl _
  c0 v _ _ := rfl
  c1 i hi := absurd hi (by show ¬ i < 0; omega)
  c2 i k hi := absurd hi (by show ¬ i < 0; omega)
  t2 j i hj := absurd hj (by show ¬ j < 0; omega)
  t3 j i hj := absurd hj (by show ¬ j < 0; omega)
  l1 j hj := absurd hj (by show ¬ j < 0; omega)
  l2 j i k hj := absurd hj (by show ¬ j < 0; omega)
  a1 v hv := absurd rfl hv
  a2 v _ hv := absurd rfl hv
  a3 v _ hv := absurd rfl hv
  a4 v := Nat.le_refl _
  a5 v hv := rfl

/-- A new search from a root. -/
def TS.root (s : TS) (r : Nat) : TS :=
  { s with m := 1, nd := up s.nd 0 r, sp := up s.sp 0 0, h := 1, st := up s.st 0 r, idx := up s.idx r (s.vis + 1), low := up s.low r (s.vis + 1), vis := s.vis + 1 }

theorem TInv.root (h : TInv g s) (hm : s.m = 0) {r : Nat} (ha : g.inA r) (hl : s.lab r = 0) : TInv g (s.root r) := by
  have h0 := h.p4 hm
  have iz : ∀ v, s.idx v = 0 := by
    intro v
    by_cases hv : s.idx v = 0
    · exact hv
    · obtain ⟨i, hi, _⟩ := h.s3 v hv; omega
  have sc0 := h.c0 r (iz r) hl
  have st0 : (s.root r).st 0 = r := up_same s.st 0 r
  have nd0 : (s.root r).nd 0 = r := up_same s.nd 0 r
  have sp0 : (s.root r).sp 0 = 0 := up_same s.sp 0 0
  have ir : (s.root r).idx r = s.vis + 1 := up_same _ _ _
  have io : ∀ v, v ≠ r → (s.root r).idx v = 0 := fun v hv => (up_other _ _ hv).trans (iz v)
  have lr : (s.root r).low r = s.vis + 1 := up_same _ _ _
  have hm' : (s.root r).m = 1 := rfl
  have hh' : (s.root r).h = 1 := rfl
  have sc' : (s.root r).sc = s.sc := rfl
  have lb' : (s.root r).lab = s.lab := rfl
  have vs' : (s.root r).vis = s.vis + 1 := rfl
  refine ⟨?_, ?_, fun _ => sp0, fun hh => by rw [hm'] at hh; omega, ?_, ?_, ?_, ?_, ?_, ?_, ?_, ?_, ?_, ?_, ?_, h.a1, h.a2, h.a3, h.a4, ?_⟩
  · intro j hj; rw [hm'] at hj
    rw [show j = 0 by omega, sp0, st0, nd0, hh']; exact ⟨by omega, rfl⟩
  · intro i j hij hj; rw [hm'] at hj; omega
  · intro i hi; rw [hh'] at hi
    rw [show i = 0 by omega, st0, ir]; exact ⟨ha, hl, by omega⟩
  · intro i j hij hj; rw [hh'] at hj; omega
  · intro v hv
    by_cases e : v = r
    · exact ⟨0, by rw [hh']; omega, by rw [st0, e]⟩
    · exact absurd (io v e) hv
  · intro v
    rw [vs']
    by_cases e : v = r
    · rw [e, ir]; omega
    · rw [io v e]; omega
  · intro v hv hv'
    exact h.c0 v (iz v) hv'
  · intro i hi hn; rw [hh'] at hi
    exact absurd (by rw [sp0]; omega) (hn 0 (by rw [hm']; omega))
  · intro i k hi hk; rw [hh'] at hi
    rw [show i = 0 by omega, st0, sc', sc0] at hk; omega
  · intro j i hj h1 h2; rw [hm'] at hj; rw [hh'] at h2
    rw [show j = 0 by omega, show i = 0 by omega, nd0, st0]; exact Rch.refl _ _
  · intro j i hj h1 h2 _; rw [hm'] at hj; rw [hh'] at h2
    rw [show j = 0 by omega, show i = 0 by omega, nd0, st0]; exact Rch.refl _ _
  · intro j hj; rw [hm'] at hj
    exact ⟨0, by omega, by rw [show j = 0 by omega, nd0, st0, lr, ir], by rw [show j = 0 by omega, nd0, st0]; exact Rch.refl _ _⟩
  · intro j i k hj h1 h2 _ hk; rw [hh'] at h2
    rw [show i = 0 by omega, st0, sc', sc0] at hk; omega
  · intro v hv
    exact io v (fun e => hv (by rw [e]; exact hl))

/-- One target more of the top node has been looked at. -/
def TS.adv (s : TS) : TS := { s with sc := up s.sc s.top (s.sc s.top + 1) }

theorem TInv.adv (h : TInv g s) (hm : 0 < s.m) (hq : s.sc s.top < g.deg s.top) (ht : g.inA (g.tgt s.top (s.sc s.top)) → s.lab (g.tgt s.top (s.sc s.top)) ≠ 0) : TInv g s.adv := by
  obtain ⟨q1, q2, q3, q4, q5⟩ := h.topf hm
  have lt : ∀ v k, k < s.adv.sc v → k < s.sc v ∨ (v = s.top ∧ k = s.sc s.top) := by
    intro v k hk
    have hk : k < up s.sc s.top (s.sc s.top + 1) v := hk
    by_cases hv : v = s.top
    · subst hv; rw [up_same] at hk; omega
    · rw [up_other _ _ hv] at hk; exact .inl hk
  refine ⟨h.p1, h.p2, h.p3, h.p4, h.s1, h.s2, h.s3, h.s4, ?_, ?_, ?_, h.t2, h.t3, h.l1, ?_, h.a1, h.a2, h.a3, h.a4, h.a5⟩
  · intro v hv hl
    have hne : v ≠ s.top := fun e => q5 (by rw [← e]; exact hv)
    exact (up_other _ _ hne).trans (h.c0 v hv hl)
  · intro i hi hn
    have hne : s.st i ≠ s.top := by
      intro e
      exact hn (s.m - 1) (by show s.m - 1 < s.m; omega) (h.st_inj q1 hi (q2.trans e.symm))
    exact (up_other _ _ hne).trans (h.c1 i hi hn)
  · intro i k hi hk ha
    rcases lt _ _ hk with hk | ⟨e1, e2⟩
    · exact h.c2 i k hi hk ha
    · have e1 : s.st i = s.top := e1
      have ha : g.inA (g.tgt (s.st i) k) := ha
      show s.lab (g.tgt (s.st i) k) ≠ 0 ∨ _
      rw [e1, e2] at ha ⊢
      exact .inl (ht ha)
  · intro j i k hj h1 h2 h3 hk ha hi
    rcases lt _ _ hk with hk | ⟨e1, e2⟩
    · exact h.l2 j i k hj h1 h2 h3 hk ha hi
    · have e1 : s.st i = s.top := e1
      have ha : g.inA (g.tgt (s.st i) k) := ha
      have hi : s.idx (g.tgt (s.st i) k) ≠ 0 := hi
      rw [e1, e2] at ha hi
      exact absurd (h.a5 _ (ht ha)) hi

/-- An edge to a node on the stack. -/
def TS.back (s : TS) (t : Nat) : TS := { s with sc := up s.sc s.top (s.sc s.top + 1), low := up s.low s.top (min (s.low s.top) (s.idx t)) }

theorem TInv.low_le (h : TInv g s) {j : Nat} (hj : j < s.m) : s.low (s.nd j) ≤ s.idx (s.nd j) := by
  obtain ⟨a, a1, a2, _⟩ := h.l1 j hj
  obtain ⟨p, q⟩ := h.p1 j hj
  rw [a2, ← q]
  rcases Nat.lt_or_ge a (s.sp j) with hlt | hge
  · exact Nat.le_of_lt (h.s2 _ _ hlt p)
  · rw [show a = s.sp j by omega]; omega

theorem TInv.nd_inj (h : TInv g s) {i j : Nat} (hi : i < s.m) (hj : j < s.m) (e : s.nd i = s.nd j) : i = j := by
  have e' := h.st_inj (h.p1 i hi).1 (h.p1 j hj).1 (by rw [(h.p1 i hi).2, (h.p1 j hj).2, e])
  rcases Nat.lt_trichotomy i j with hlt | heq | hgt
  · have := h.p2 i j hlt hj; omega
  · exact heq
  · have := h.p2 j i hgt hi; omega

theorem TInv.back (h : TInv g s) (hm : 0 < s.m) (hq : s.sc s.top < g.deg s.top) {t : Nat} (et : g.tgt s.top (s.sc s.top) = t) (ha : g.inA t) (hi : s.idx t ≠ 0) : TInv g (s.back t) := by
  obtain ⟨q1, q2, q3, q4, q5⟩ := h.topf hm
  have lt : ∀ v k, k < (s.back t).sc v → k < s.sc v ∨ (v = s.top ∧ k = s.sc s.top) := by
    intro v k hk
    have hk : k < up s.sc s.top (s.sc s.top + 1) v := hk
    by_cases hv : v = s.top
    · subst hv; rw [up_same] at hk; omega
    · rw [up_other _ _ hv] at hk; exact .inl hk
  have lw : ∀ j, j < s.m → j ≠ s.m - 1 → (s.back t).low (s.nd j) = s.low (s.nd j) := fun j hj hne => up_other _ _ (fun e => hne (h.nd_inj hj (by omega) e))
  have lt' : (s.back t).low s.top = min (s.low s.top) (s.idx t) := up_same _ _ _
  have lle : ∀ j, j < s.m → (s.back t).low (s.nd j) ≤ s.low (s.nd j) := by
    intro j hj
    by_cases e : j = s.m - 1
    · rw [e]; show (s.back t).low s.top ≤ s.low s.top; rw [lt']; omega
    · rw [lw j hj e]; omega
  refine ⟨h.p1, h.p2, h.p3, h.p4, h.s1, h.s2, h.s3, h.s4, ?_, ?_, ?_, h.t2, h.t3, ?_, ?_, h.a1, h.a2, h.a3, h.a4, h.a5⟩
  · intro v hv hl
    have hne : v ≠ s.top := fun e => q5 (by rw [← e]; exact hv)
    exact (up_other _ _ hne).trans (h.c0 v hv hl)
  · intro i hi hn
    have hne : s.st i ≠ s.top := by
      intro e
      exact hn (s.m - 1) (by show s.m - 1 < s.m; omega) (h.st_inj q1 hi (q2.trans e.symm))
    exact (up_other _ _ hne).trans (h.c1 i hi hn)
  · intro i k hi' hk ha'
    rcases lt _ _ hk with hk | ⟨e1, e2⟩
    · exact h.c2 i k hi' hk ha'
    · have e1 : s.st i = s.top := e1
      right
      show s.idx (g.tgt (s.st i) k) ≠ 0
      rw [e1, e2, et]; exact hi
  · intro j hj
    show ∃ a, a ≤ s.sp j ∧ (s.back t).low (s.nd j) = s.idx (s.st a) ∧ Rch g.R (s.nd j) (s.st a)
    by_cases e : j = s.m - 1
    · subst e
      show ∃ a, a ≤ s.sp (s.m - 1) ∧ (s.back t).low s.top = s.idx (s.st a) ∧ Rch g.R s.top (s.st a)
      rw [lt']
      obtain ⟨a, b1, b2, b3⟩ := h.l1 (s.m - 1) hj
      by_cases hle : s.low s.top ≤ s.idx t
      · exact ⟨a, b1, by rw [Nat.min_eq_left hle]; exact b2, b3⟩
      · obtain ⟨i, i1, i2⟩ := h.s3 t hi
        have hlow := h.low_le (j := s.m - 1) (by omega)
        have hlow : s.low s.top ≤ s.idx s.top := hlow
        refine ⟨i, ?_, by rw [Nat.min_eq_right (by omega), i2], by rw [i2]; exact Rch.one ⟨q3, ha, _, hq, et⟩⟩
        rcases Nat.lt_or_ge (s.sp (s.m - 1)) i with hlt | hge
        · have := h.s2 _ _ hlt i1
          rw [q2, i2] at this; omega
        · exact hge
    · rw [lw j hj e]; exact h.l1 j hj
  · intro j i k hj h1 h2 h3 hk ha' hi'
    show (s.back t).low (s.nd j) ≤ s.idx (g.tgt (s.st i) k)
    rcases lt _ _ hk with hk | ⟨e1, e2⟩
    · exact Nat.le_trans (lle j hj) (h.l2 j i k hj h1 h2 h3 hk ha' hi')
    · have e1 : s.st i = s.top := e1
      have ei : i = s.sp (s.m - 1) := h.st_inj h2 q1 (e1.trans q2.symm)
      have h3 : j + 1 < s.m → i < s.sp (j + 1) := h3
      have hj : j < s.m := hj
      have ej : j = s.m - 1 := by
        rcases Nat.lt_or_ge (j + 1) s.m with hlt | hge
        · have a1 := h3 hlt
          have := h.sp_le (i := j + 1) (j := s.m - 1) (by omega) (by omega)
          omega
        · omega
      rw [e1, e2, et, ej]
      show (s.back t).low s.top ≤ s.idx t
      rw [lt']; omega

/-- Down to a node that was not visited. -/
def TS.down (s : TS) (t : Nat) : TS :=
  { s with sc := up s.sc s.top (s.sc s.top + 1), m := s.m + 1, nd := up s.nd s.m t, sp := up s.sp s.m s.h, h := s.h + 1, st := up s.st s.h t, idx := up s.idx t (s.vis + 1), low := up s.low t (s.vis + 1), vis := s.vis + 1 }

theorem TInv.down (h : TInv g s) (hm : 0 < s.m) (hq : s.sc s.top < g.deg s.top) {t : Nat} (et : g.tgt s.top (s.sc s.top) = t) (ha : g.inA t) (hl : s.lab t = 0) (hi : s.idx t = 0) : TInv g (s.down t) := by
  obtain ⟨q1, q2, q3, q4, q5⟩ := h.topf hm
  have tt : t ≠ s.top := fun e => q5 (by rw [← e]; exact hi)
  have nst : ∀ i, i < s.h → s.st i ≠ t := fun i hi' e => (h.s1 i hi').2.2 (by rw [e]; exact hi)
  have nnd : ∀ j, j < s.m → s.nd j ≠ t := fun j hj e => nst _ (h.p1 j hj).1 ((h.p1 j hj).2.trans e)
  have sto : ∀ i, i < s.h → (s.down t).st i = s.st i := fun i hi' => up_other _ _ (by omega)
  have stn : (s.down t).st s.h = t := up_same _ _ _
  have ndo : ∀ j, j < s.m → (s.down t).nd j = s.nd j := fun j hj => up_other _ _ (by omega)
  have ndn : (s.down t).nd s.m = t := up_same _ _ _
  have spo : ∀ j, j < s.m → (s.down t).sp j = s.sp j := fun j hj => up_other _ _ (by omega)
  have spn : (s.down t).sp s.m = s.h := up_same _ _ _
  have ixo : ∀ v, v ≠ t → (s.down t).idx v = s.idx v := fun v hv => up_other _ _ hv
  have ixn : (s.down t).idx t = s.vis + 1 := up_same _ _ _
  have lwo : ∀ v, v ≠ t → (s.down t).low v = s.low v := fun v hv => up_other _ _ hv
  have lwn : (s.down t).low t = s.vis + 1 := up_same _ _ _
  have hm' : (s.down t).m = s.m + 1 := rfl
  have hh' : (s.down t).h = s.h + 1 := rfl
  have lb' : (s.down t).lab = s.lab := rfl
  have vs' : (s.down t).vis = s.vis + 1 := rfl
  have sct : (s.down t).sc t = 0 := (up_other _ _ tt).trans (h.c0 t hi hl)
  have lt : ∀ v k, k < (s.down t).sc v → k < s.sc v ∨ (v = s.top ∧ k = s.sc s.top) := by
    intro v k hk
    have hk : k < up s.sc s.top (s.sc s.top + 1) v := hk
    by_cases hv : v = s.top
    · subst hv; rw [up_same] at hk; omega
    · rw [up_other _ _ hv] at hk; exact .inl hk
  have ixne : ∀ v, s.idx v ≠ 0 → (s.down t).idx v ≠ 0 := by
    intro v hv
    by_cases e : v = t
    · rw [e, ixn]; omega
    · rw [ixo v e]; exact hv
  have toT : Rch g.R s.top t := Rch.one ⟨q3, ha, _, hq, et⟩
  refine ⟨?_, ?_, fun _ => (spo 0 hm).trans (h.p3 hm), fun hh => by rw [hm'] at hh; omega, ?_, ?_, ?_, ?_, ?_, ?_, ?_, ?_, ?_, ?_, ?_, h.a1, h.a2, h.a3, h.a4, ?_⟩
  · intro j hj
    rw [hm'] at hj
    rcases Nat.lt_or_ge j s.m with hlt | hge
    · have := h.p1 j hlt
      rw [spo j hlt, ndo j hlt, hh', sto _ this.1]; exact ⟨by omega, this.2⟩
    · rw [show j = s.m by omega, spn, ndn, stn, hh']; exact ⟨by omega, rfl⟩
  · intro i j hij hj
    rw [hm'] at hj
    rw [spo i (by omega)]
    rcases Nat.lt_or_ge j s.m with hlt | hge
    · rw [spo j hlt]; exact h.p2 i j hij hlt
    · rw [show j = s.m by omega, spn]; exact (h.p1 i (by omega)).1
  · intro i hi'
    rw [hh'] at hi'
    rcases Nat.lt_or_ge i s.h with hlt | hge
    · have := h.s1 i hlt
      rw [sto i hlt, ixo _ (nst i hlt)]; exact this
    · rw [show i = s.h by omega, stn, ixn]; exact ⟨ha, hl, by omega⟩
  · intro i i' hii hi'
    rw [hh'] at hi'
    rw [sto i (by omega), ixo _ (nst i (by omega))]
    rcases Nat.lt_or_ge i' s.h with hlt | hge
    · rw [sto i' hlt, ixo _ (nst i' hlt)]; exact h.s2 i i' hii hlt
    · rw [show i' = s.h by omega, stn, ixn]
      have := h.s4 (s.st i); omega
  · intro v hv
    by_cases e : v = t
    · exact ⟨s.h, by rw [hh']; omega, by rw [stn, e]⟩
    · rw [ixo v e] at hv
      obtain ⟨i, i1, i2⟩ := h.s3 v hv
      exact ⟨i, by rw [hh']; omega, by rw [sto i i1]; exact i2⟩
  · intro v
    rw [vs']
    by_cases e : v = t
    · rw [e, ixn]; omega
    · rw [ixo v e]; have := h.s4 v; omega
  · intro v hv hl'
    by_cases e : v = t
    · rw [e, ixn] at hv; omega
    · rw [ixo v e] at hv
      have hne : v ≠ s.top := fun e' => q5 (by rw [← e']; exact hv)
      exact (up_other _ _ hne).trans (h.c0 v hv hl')
  · intro i hi' hn
    rw [hh'] at hi'
    rcases Nat.lt_or_ge i s.h with hlt | hge
    · rw [sto i hlt]
      have hn' : ∀ j, j < s.m → s.sp j ≠ i := by
        intro j hj e
        exact hn j (by rw [hm']; omega) ((spo j hj).trans e)
      have hne : s.st i ≠ s.top := by
        intro e
        exact hn' (s.m - 1) (by omega) (h.st_inj q1 hlt (q2.trans e.symm))
      exact (up_other _ _ hne).trans (h.c1 i hlt hn')
    · exact absurd (by rw [spn]; omega) (hn s.m (by rw [hm']; omega))
  · intro i k hi' hk ha'
    rw [hh'] at hi'
    rcases Nat.lt_or_ge i s.h with hlt | hge
    · rw [sto i hlt] at hk ha' ⊢
      rcases lt _ _ hk with hk | ⟨e1, e2⟩
      · rcases h.c2 i k hlt hk ha' with c | c
        · exact .inl c
        · exact .inr (ixne _ c)
      · rw [e1, e2, et, ixn]; exact .inr (by omega)
    · rw [show i = s.h by omega, stn, sct] at hk; omega
  · intro j i hj h1 h2
    rw [hm'] at hj; rw [hh'] at h2
    rcases Nat.lt_or_ge j s.m with hlt | hge
    · rw [spo j hlt] at h1
      rw [ndo j hlt]
      rcases Nat.lt_or_ge i s.h with hlt' | hge'
      · rw [sto i hlt']; exact h.t2 j i hlt h1 hlt'
      · rw [show i = s.h by omega, stn]
        have := h.t2 j (s.sp (s.m - 1)) hlt (h.sp_le (by omega) (by omega)) q1
        rw [q2] at this
        exact this.trans toT
    · rw [show j = s.m by omega, spn] at h1
      rw [show j = s.m by omega, show i = s.h by omega, ndn, stn]; exact Rch.refl _ _
  · intro j i hj h1 h2 h3
    rw [hm'] at hj h3; rw [hh'] at h2
    rcases Nat.lt_or_ge j s.m with hlt | hge
    · rw [spo j hlt] at h1
      have h4 := h3 (by omega)
      have hih : i < s.h := by
        rcases Nat.lt_or_ge (j + 1) s.m with l | l
        · rw [spo _ l] at h4; have := (h.p1 _ l).1; omega
        · rw [show j + 1 = s.m by omega, spn] at h4; exact h4
      rw [ndo j hlt, sto i hih]
      exact h.t3 j i hlt h1 hih (fun l => by rw [spo _ l] at h4; exact h4)
    · rw [show j = s.m by omega, spn] at h1
      rw [show j = s.m by omega, show i = s.h by omega, ndn, stn]; exact Rch.refl _ _
  · intro j hj
    rw [hm'] at hj
    rcases Nat.lt_or_ge j s.m with hlt | hge
    · obtain ⟨a, b1, b2, b3⟩ := h.l1 j hlt
      have ah : a < s.h := by have := (h.p1 j hlt).1; omega
      refine ⟨a, by rw [spo j hlt]; exact b1, ?_, by rw [ndo j hlt, sto a ah]; exact b3⟩
      rw [ndo j hlt, lwo _ (nnd j hlt), sto a ah, ixo _ (nst a ah)]; exact b2
    · rw [show j = s.m by omega]
      exact ⟨s.h, by rw [spn]; omega, by rw [ndn, lwn, stn, ixn], by rw [ndn, stn]; exact Rch.refl _ _⟩
  · intro j i k hj h1 h2 h3 hk ha' hi'
    rw [hm'] at hj h3; rw [hh'] at h2
    rcases Nat.lt_or_ge j s.m with hlt | hge
    · rw [spo j hlt] at h1
      have h4 := h3 (by omega)
      have hih : i < s.h := by
        rcases Nat.lt_or_ge (j + 1) s.m with l | l
        · rw [spo _ l] at h4; have := (h.p1 _ l).1; omega
        · rw [show j + 1 = s.m by omega, spn] at h4; exact h4
      rw [sto i hih] at hk ha' hi' ⊢
      rw [ndo j hlt, lwo _ (nnd j hlt)]
      have low := h.low_le hlt
      have ile := h.s4 (s.nd j)
      by_cases e : g.tgt (s.st i) k = t
      · rw [e, ixn]; omega
      · rw [ixo _ e] at hi' ⊢
        rcases lt _ _ hk with hk | ⟨e1, e2⟩
        · exact h.l2 j i k hlt h1 hih (fun l => by rw [spo _ l] at h4; exact h4) hk ha' hi'
        · rw [e1, e2, et] at e; exact absurd rfl e
    · rw [show j = s.m by omega, spn] at h1
      rw [show i = s.h by omega, stn, sct] at hk; omega
  · intro v hv
    have hne : v ≠ t := fun e => hv (by rw [e]; exact hl)
    rw [ixo v hne]; exact h.a5 v hv

/-- The top node leaves the path and stays on the stack. -/
def TS.stay (s : TS) : TS := { s with m := s.m - 1, low := up s.low (s.nd (s.m - 2)) (min (s.low (s.nd (s.m - 2))) (s.low s.top)) }

theorem TInv.stay (h : TInv g s) (hm : 0 < s.m) (hq : s.sc s.top = g.deg s.top) (hl : s.low s.top ≠ s.idx s.top) : 2 ≤ s.m ∧ TInv g s.stay := by
  obtain ⟨q1, q2, q3, q4, q5⟩ := h.topf hm
  obtain ⟨a, b1, b2, b3⟩ := h.l1 (s.m - 1) (by omega)
  have b2 : s.low s.top = s.idx (s.st a) := b2
  have b3 : Rch g.R s.top (s.st a) := b3
  have ane : a ≠ s.sp (s.m - 1) := fun e => hl (by rw [b2, e, q2])
  have m2 : 2 ≤ s.m := by
    rcases Nat.lt_or_ge s.m 2 with l | l
    · have := h.p3 hm
      rw [show s.m - 1 = 0 by omega] at b1 ane
      omega
    · exact l
  refine ⟨m2, ?_⟩
  have hm' : s.stay.m = s.m - 1 := rfl
  have lwo : ∀ j, j < s.m → j ≠ s.m - 2 → s.stay.low (s.nd j) = s.low (s.nd j) := fun j hj hne => up_other _ _ (fun e => hne (h.nd_inj hj (by omega) e))
  have lwn : s.stay.low (s.nd (s.m - 2)) = min (s.low (s.nd (s.m - 2))) (s.low s.top) := up_same _ _ _
  have sp21 := h.p2 (s.m - 2) (s.m - 1) (by omega) (by omega)
  have up2 : Rch g.R (s.nd (s.m - 2)) s.top := by
    have := h.t2 (s.m - 2) (s.sp (s.m - 1)) (by omega) (by omega) q1
    rw [q2] at this; exact this
  -- the top node leads back to its parent
  have dn2 : Rch g.R s.top (s.nd (s.m - 2)) := by
    obtain ⟨j, j1, j2, j3⟩ := h.seg (i := a) (by omega)
    have jle : j ≤ s.m - 2 := by
      rcases Nat.lt_or_ge (s.m - 2) j with l | l
      · rw [show j = s.m - 1 by omega] at j2; omega
      · exact l
    have r1 := h.t3 j a j1 j2 (by omega) j3
    have r2 := h.t2 j (s.sp (s.m - 2)) j1 (h.sp_le jle (by omega)) (by omega)
    rw [(h.p1 (s.m - 2) (by omega)).2] at r2
    exact (b3.trans r1).trans r2
  refine ⟨fun j hj => h.p1 j (by rw [hm'] at hj; omega), fun i j hij hj => h.p2 i j hij (by rw [hm'] at hj; omega), fun _ => h.p3 hm, fun hh => by rw [hm'] at hh; omega, h.s1, h.s2, h.s3, h.s4, h.c0, ?_, h.c2, fun j i hj h1 h2 => h.t2 j i (by rw [hm'] at hj; omega) h1 h2, ?_, ?_, ?_, h.a1, h.a2, h.a3, h.a4, h.a5⟩
  · intro i hi hn
    by_cases e : i = s.sp (s.m - 1)
    · show s.sc (s.st i) = g.deg (s.st i)
      rw [e, q2]; exact hq
    · exact h.c1 i hi (fun j hj e' => by
        by_cases ej : j = s.m - 1
        · exact e (by rw [← ej]; exact e'.symm)
        · exact hn j (by rw [hm']; omega) e')
  · intro j i hj h1 h2 h3
    rw [hm'] at hj h3
    rcases Nat.lt_or_ge (j + 1) (s.m - 1) with l | l
    · exact h.t3 j i (by omega) h1 h2 (fun _ => h3 l)
    · have ej : j = s.m - 2 := by omega
      subst ej
      rcases Nat.lt_or_ge i (s.sp (s.m - 1)) with l' | l'
      · exact h.t3 (s.m - 2) i (by omega) h1 h2 (fun _ => by rw [show s.m - 2 + 1 = s.m - 1 by omega]; exact l')
      · have := h.t3 (s.m - 1) i (by omega) l' h2 (fun hh => by omega)
        exact this.trans dn2
  · intro j hj
    rw [hm'] at hj
    show ∃ a, a ≤ s.sp j ∧ s.stay.low (s.nd j) = s.idx (s.st a) ∧ Rch g.R (s.nd j) (s.st a)
    by_cases ej : j = s.m - 2
    · subst ej
      rw [lwn]
      obtain ⟨c, c1, c2, c3⟩ := h.l1 (s.m - 2) (by omega)
      by_cases hle : s.low (s.nd (s.m - 2)) ≤ s.low s.top
      · exact ⟨c, c1, by rw [Nat.min_eq_left hle]; exact c2, c3⟩
      · refine ⟨a, ?_, by rw [Nat.min_eq_right (by omega)]; exact b2, up2.trans b3⟩
        have := h.low_le (j := s.m - 2) (by omega)
        have e2 := (h.p1 (s.m - 2) (by omega)).2
        rcases Nat.lt_or_ge (s.sp (s.m - 2)) a with l | l
        · have := h.s2 _ _ l (by omega)
          rw [e2] at this; omega
        · exact l
    · rw [lwo j (by omega) ej]; exact h.l1 j (by omega)
  · intro j i k hj h1 h2 h3 hk ha hi
    rw [hm'] at hj h3
    show s.stay.low (s.nd j) ≤ s.idx (g.tgt (s.st i) k)
    by_cases ej : j = s.m - 2
    · subst ej
      rw [lwn]
      rcases Nat.lt_or_ge i (s.sp (s.m - 1)) with l' | l'
      · have := h.l2 (s.m - 2) i k (by omega) h1 h2 (fun _ => by rw [show s.m - 2 + 1 = s.m - 1 by omega]; exact l') hk ha hi
        omega
      · have := h.l2 (s.m - 1) i k (by omega) l' h2 (fun hh => by omega) hk ha hi
        have : s.low s.top ≤ s.idx (g.tgt (s.st i) k) := this
        omega
    · rw [lwo j (by omega) ej]
      exact h.l2 j i k (by omega) h1 h2 (fun _ => h3 (by omega)) hk ha hi

/-- The top node's component leaves the stack: ix and lb, what the index and the number become; lw, what low becomes. -/
def TS.pop (s : TS) (ix lb lw : Nat → Nat) : TS := { s with m := s.m - 1, h := s.sp (s.m - 1), idx := ix, lab := lb, low := lw, nl := s.nl + 1 }

theorem TInv.pop (h : TInv g s) (hm : 0 < s.m) (hq : s.sc s.top = g.deg s.top) (hl : s.low s.top = s.idx s.top) (ix lb lw : Nat → Nat)
    (hin : ∀ i, s.sp (s.m - 1) ≤ i → i < s.h → ix (s.st i) = 0 ∧ lb (s.st i) = s.nl + 1)
    (hout : ∀ v, (∀ i, s.sp (s.m - 1) ≤ i → i < s.h → s.st i ≠ v) → ix v = s.idx v ∧ lb v = s.lab v)
    (hlw : ∀ j, j + 1 < s.m → lw (s.nd j) = s.low (s.nd j)) : TInv g (s.pop ix lb lw) := by
  obtain ⟨q1, q2, q3, q4, q5⟩ := h.topf hm
  have hm' : (s.pop ix lb lw).m = s.m - 1 := rfl
  have hh' : (s.pop ix lb lw).h = s.sp (s.m - 1) := rfl
  have ix' : (s.pop ix lb lw).idx = ix := rfl
  have lb' : (s.pop ix lb lw).lab = lb := rfl
  have lw' : (s.pop ix lb lw).low = lw := rfl
  have nl' : (s.pop ix lb lw).nl = s.nl + 1 := rfl
  -- a node lies on the stretch or not
  have cas : ∀ v, (∃ i, s.sp (s.m - 1) ≤ i ∧ i < s.h ∧ s.st i = v) ∨ (ix v = s.idx v ∧ lb v = s.lab v ∧ ∀ i, s.sp (s.m - 1) ≤ i → i < s.h → s.st i ≠ v) := by
    intro v
    by_cases hv : ∃ i, s.sp (s.m - 1) ≤ i ∧ i < s.h ∧ s.st i = v
    · exact .inl hv
    · have hv' : ∀ i, s.sp (s.m - 1) ≤ i → i < s.h → s.st i ≠ v := fun i h1 h2 e => hv ⟨i, h1, h2, e⟩
      exact .inr ⟨(hout v hv').1, (hout v hv').2, hv'⟩
  have low : ∀ i, i < s.sp (s.m - 1) → ix (s.st i) = s.idx (s.st i) ∧ lb (s.st i) = s.lab (s.st i) := by
    intro i hi
    exact hout _ (fun i' h1 h2 e => by have := h.st_inj h2 (by omega) e; omega)
  have upd : ∀ i, s.sp (s.m - 1) ≤ i → i < s.h → Rch g.R s.top (s.st i) ∧ Rch g.R (s.st i) s.top :=
    fun i h1 h2 => ⟨h.t2 (s.m - 1) i (by omega) h1 h2, h.t3 (s.m - 1) i (by omega) h1 h2 (fun hh => by omega)⟩
  -- what is put in is closed
  have lbne : ∀ v, s.lab v ≠ 0 → lb v ≠ 0 := by
    intro v hv
    rcases cas v with ⟨i, i1, i2, i3⟩ | ⟨_, c, _⟩
    · rw [← i3, (hin i i1 i2).2]; omega
    · rw [c]; exact hv
  have closed : ∀ v v', lb v ≠ 0 → g.R v v' → lb v' ≠ 0 := by
    intro v v' hv hr
    rcases cas v with ⟨i, i1, i2, i3⟩ | ⟨_, c, _⟩
    · obtain ⟨r1, r2, k, r3, r4⟩ := hr
      have scd : s.sc (s.st i) = g.deg (s.st i) := by
        by_cases e : i = s.sp (s.m - 1)
        · rw [e, q2]; exact hq
        · refine h.c1 i i2 (fun j hj e' => ?_)
          rcases Nat.lt_or_ge j (s.m - 1) with l | l
          · have := h.p2 j (s.m - 1) l (by omega); omega
          · rw [show j = s.m - 1 by omega] at e'; omega
      rw [← i3] at r3 r4
      have hk : k < s.sc (s.st i) := by rw [scd]; exact r3
      rcases h.c2 i k i2 hk (by rw [r4]; exact r2) with c | c
      · rw [r4] at c; exact lbne v' c
      · have l2 := h.l2 (s.m - 1) i k (by omega) i1 i2 (fun hh => by omega) hk (by rw [r4]; exact r2) c
        rw [r4] at c l2
        obtain ⟨b, b1, b2⟩ := h.s3 v' c
        have : s.low s.top ≤ s.idx v' := l2
        have bge : s.sp (s.m - 1) ≤ b := by
          rcases Nat.lt_or_ge b (s.sp (s.m - 1)) with l | l
          · have := h.s2 b _ l q1
            rw [q2, b2] at this; omega
          · exact l
        rw [← b2, (hin b bge b1).2]; omega
    · rw [c] at hv
      exact lbne v' (h.a2 v v' hv hr)
  have nls : ∀ v, lb v ≠ 0 → lb v = s.nl + 1 ∧ Rch g.R s.top v ∧ Rch g.R v s.top ∨ (lb v = s.lab v ∧ s.lab v ≠ 0) := by
    intro v hv
    rcases cas v with ⟨i, i1, i2, i3⟩ | ⟨_, c, _⟩
    · rw [← i3]; exact .inl ⟨(hin i i1 i2).2, upd i i1 i2⟩
    · rw [c] at hv; exact .inr ⟨c, hv⟩
  -- from a node that was put in before there is no way to the top node
  have noway : ∀ v, s.lab v ≠ 0 → ¬ Rch g.R v s.top := by
    intro v hv hr
    exact hr (fun x => s.lab x ≠ 0) hv (fun x y hx r => h.a2 x y hx r) q4
  refine ⟨?_, fun i j hij hj => h.p2 i j hij (by rw [hm'] at hj; omega), fun _ => h.p3 hm, ?_, ?_, ?_, ?_, ?_, ?_, ?_, ?_, ?_, ?_, ?_, ?_, ?_, ?_, ?_, ?_, ?_⟩
  · intro j hj
    rw [hm'] at hj; rw [hh']
    exact ⟨h.p2 j (s.m - 1) (by omega) (by omega), (h.p1 j (by omega)).2⟩
  · intro hh
    rw [hm'] at hh; rw [hh', show s.m - 1 = 0 by omega]; exact h.p3 hm
  · intro i hi
    rw [hh'] at hi; rw [ix', lb']
    show g.inA (s.st i) ∧ lb (s.st i) = 0 ∧ ix (s.st i) ≠ 0
    rw [(low i hi).1, (low i hi).2]; exact h.s1 i (by omega)
  · intro i i' hii hi'
    rw [hh'] at hi'; rw [ix']
    show ix (s.st i) < ix (s.st i')
    rw [(low i (by omega)).1, (low i' hi').1]; exact h.s2 i i' hii (by omega)
  · intro v hv
    rw [ix'] at hv; rw [hh']
    rcases cas v with ⟨i, i1, i2, i3⟩ | ⟨c, _, c'⟩
    · rw [← i3, (hin i i1 i2).1] at hv; exact absurd rfl hv
    · rw [c] at hv
      obtain ⟨b, b1, b2⟩ := h.s3 v hv
      refine ⟨b, ?_, b2⟩
      rcases Nat.lt_or_ge b (s.sp (s.m - 1)) with l | l
      · exact l
      · exact absurd b2 (c' b l b1)
  · intro v
    rw [ix']
    rcases cas v with ⟨i, i1, i2, i3⟩ | ⟨c, _, c'⟩
    · rw [← i3, (hin i i1 i2).1]; omega
    · rw [c]; exact h.s4 v
  · intro v hv hl'
    rw [ix'] at hv; rw [lb'] at hl'
    rcases cas v with ⟨i, i1, i2, i3⟩ | ⟨c, c', _⟩
    · rw [← i3, (hin i i1 i2).2] at hl'; omega
    · rw [c] at hv; rw [c'] at hl'; exact h.c0 v hv hl'
  · intro i hi hn
    rw [hh'] at hi
    refine h.c1 i (by omega) (fun j hj e' => ?_)
    rcases Nat.lt_or_ge j (s.m - 1) with l | l
    · exact hn j (by rw [hm']; exact l) e'
    · rw [show j = s.m - 1 by omega] at e'; omega
  · intro i k hi hk ha
    rw [hh'] at hi; rw [ix', lb']
    show lb (g.tgt (s.st i) k) ≠ 0 ∨ ix (g.tgt (s.st i) k) ≠ 0
    rcases h.c2 i k (by omega) hk ha with c | c
    · exact .inl (lbne _ c)
    · rcases cas (g.tgt (s.st i) k) with ⟨b, b1, b2, b3⟩ | ⟨d, _, _⟩
      · left; rw [← b3, (hin b b1 b2).2]; omega
      · right; rw [d]; exact c
  · intro j i hj h1 h2
    rw [hm'] at hj; rw [hh'] at h2
    exact h.t2 j i (by omega) h1 (by omega)
  · intro j i hj h1 h2 h3
    rw [hm'] at hj h3; rw [hh'] at h2
    refine h.t3 j i (by omega) h1 (by omega) (fun hh => ?_)
    rcases Nat.lt_or_ge (j + 1) (s.m - 1) with l | l
    · exact h3 l
    · show i < s.sp (j + 1)
      rw [show j + 1 = s.m - 1 by omega]; exact h2
  · intro j hj
    rw [hm'] at hj; rw [ix', lw']
    obtain ⟨a, b1, b2, b3⟩ := h.l1 j (by omega)
    have := h.p2 j (s.m - 1) (by omega) (by omega)
    refine ⟨a, b1, ?_, b3⟩
    show lw (s.nd j) = ix (s.st a)
    rw [hlw j (by omega), (low a (by omega)).1]; exact b2
  · intro j i k hj h1 h2 h3 hk ha hi
    rw [hm'] at hj h3; rw [hh'] at h2; rw [ix'] at hi ⊢; rw [lw']
    have h1 : s.sp j ≤ i := h1
    have hk : k < s.sc (s.st i) := hk
    have ha : g.inA (g.tgt (s.st i) k) := ha
    have hi : ix (g.tgt (s.st i) k) ≠ 0 := hi
    show lw (s.nd j) ≤ ix (g.tgt (s.st i) k)
    rcases cas (g.tgt (s.st i) k) with ⟨b, b1, b2, b3⟩ | ⟨d, _, _⟩
    · rw [← b3, (hin b b1 b2).1] at hi; exact absurd rfl hi
    · rw [d] at hi ⊢
      rw [hlw j (by omega)]
      refine h.l2 j i k (by omega) h1 (by omega) (fun hh => ?_) hk ha hi
      rcases Nat.lt_or_ge (j + 1) (s.m - 1) with l | l
      · exact h3 l
      · rw [show j + 1 = s.m - 1 by omega]; exact h2
  · intro v hv
    rw [lb'] at hv
    rcases cas v with ⟨i, i1, i2, i3⟩ | ⟨_, c, _⟩
    · rw [← i3]; exact (h.s1 i i2).1
    · rw [c] at hv; exact h.a1 v hv
  · intro v v' hv hr
    exact closed v v' hv hr
  · intro v v' hv hv'
    rw [lb'] at hv hv' ⊢
    rcases nls v hv with ⟨e, r1, r2⟩ | ⟨e, n⟩
    · rcases nls v' hv' with ⟨e', r1', r2'⟩ | ⟨e', n'⟩
      · rw [e, e']
        exact ⟨fun _ => ⟨r2.trans r1', r2'.trans r1⟩, fun _ => rfl⟩
      · rw [e, e']
        have := h.a4 v'
        refine ⟨fun hh => by omega, fun hh => absurd (hh.2.trans r2) (noway v' n')⟩
    · rcases nls v' hv' with ⟨e', r1', r2'⟩ | ⟨e', n'⟩
      · rw [e, e']
        have := h.a4 v
        refine ⟨fun hh => by omega, fun hh => absurd (hh.1.trans r2') (noway v n)⟩
      · rw [e, e']; exact h.a3 v v' n n'
  · intro v
    rw [lb', nl']
    rcases cas v with ⟨i, i1, i2, i3⟩ | ⟨_, c, _⟩
    · rw [← i3, (hin i i1 i2).2]; omega
    · rw [c]; have := h.a4 v; omega
  · intro v hv
    rw [lb'] at hv; rw [ix']
    rcases cas v with ⟨i, i1, i2, i3⟩ | ⟨c', c, _⟩
    · rw [← i3]; exact (hin i i1 i2).1
    · rw [c] at hv; rw [c']; exact h.a5 v hv

end
end Go.Proofs.Qxb6602148a
