/-
  PLAIN: 'divide' of a component leaves a partition that meets the model, if its other components did and the search parts the component's edges as the model does.
-/
import Derived.Test.Qxb6602148aDs
import Derived.Test.Qxb6602148aMt
attribute [local go_sem] Go.Proofs.Qxb6602148a.yTo Go.Proofs.Qxb6602148a.yUpon
namespace Go.Proofs.Qxb6602148a
set_option linter.unusedVariables false
set_option linter.unusedSimpArgs false

theorem cnt_nth {p : Nat → Bool} : ∀ {N i : Nat}, i < cnt p N → ∃ s, s < N ∧ p s = true ∧ cnt p s = i
  | 0, i, h => by have h : i < 0 := h; omega
  | N + 1, i, h => by
    rw [cnt_succ] at h
    by_cases hp : p N = true
    · rw [if_pos hp] at h
      by_cases e : i = cnt p N
      · exact ⟨N, by omega, hp, e.symm⟩
      · obtain ⟨s, s1, s2⟩ := cnt_nth (p := p) (N := N) (i := i) (by omega)
        exact ⟨s, by omega, s2⟩
    · rw [if_neg hp] at h
      obtain ⟨s, s1, s2⟩ := cnt_nth (p := p) (N := N) (i := i) (by omega)
      exact ⟨s, by omega, s2⟩
theorem cnt_lt {p : Nat → Bool} {s s' : Nat} (h : s < s') (hp : p s = true) : cnt p s < cnt p s' := by
  have mono : ∀ n, cnt p (s + 1) ≤ cnt p (s + 1 + n) := by
    intro n
    induction n with
    | zero => exact Nat.le_refl _
    | succ n ih =>
      have h2 : cnt p (s + 1 + (n + 1)) = cnt p (s + 1 + n) + (if p (s + 1 + n) then 1 else 0) := rfl
      omega
  have := mono (s' - (s + 1))
  rw [show s + 1 + (s' - (s + 1)) = s' by omega, cnt_succ, if_pos hp] at this
  omega
/-- As many as an enumeration tells. -/
theorem cnt_enum {p : Nat → Bool} {N m : Nat} {f : Nat → Nat} (h1 : ∀ k, k < m → f k < N ∧ p (f k) = true) (h2 : ∀ e, e < N → p e = true → ∃ k, k < m ∧ f k = e) (h3 : ∀ k k', k < m → k' < m → f k = f k' → k = k') : cnt p N = m := by
  have a : m ≤ cnt p N := by
    refine pigeon (cnt p N) m (fun k => cnt p (f k)) (fun k hk => cnt_lt (h1 k hk).1 (h1 k hk).2) (fun k k' hk hk' e => ?_)
    have e : cnt p (f k) = cnt p (f k') := e
    refine h3 k k' hk hk' ?_
    rcases Nat.lt_trichotomy (f k) (f k') with h | h | h
    · have := cnt_lt h (h1 k hk).2; omega
    · exact h
    · have := cnt_lt h (h1 k' hk').2; omega
  have ex : ∀ i, ∃ k, i < cnt p N → k < m ∧ cnt p (f k) = i := by
    intro i
    by_cases hi : i < cnt p N
    · obtain ⟨s, s1, s2, s3⟩ := cnt_nth hi
      obtain ⟨k, k1, k2⟩ := h2 s s1 s2
      exact ⟨k, fun _ => ⟨k1, by rw [k2]; exact s3⟩⟩
    · exact ⟨0, fun h => absurd h hi⟩
  obtain ⟨g, hg⟩ := Classical.axiomOfChoice ex
  have b : cnt p N ≤ m := pigeon m (cnt p N) g (fun i hi => (hg i hi).1) (fun i j hi hj e => by rw [← (hg i hi).2, ← (hg j hj).2, e])
  omega
theorem cnt_more {p : Nat → Bool} {N : Nat} : ∀ n, (∀ e, N ≤ e → e < N + n → p e = false) → cnt p (N + n) = cnt p N
  | 0, _ => rfl
  | n + 1, h => by
    rw [show N + (n + 1) = (N + n) + 1 by omega, cnt_succ, cnt_more n (fun e h1 h2 => h e h1 (by omega)), h (N + n) (by omega) (by omega)]
    rfl

/-- All but component c meets the model. -/
structure Rest (X : MD) (P : PS) (c n : Nat) (sl : Nat → Nat) : Prop where
  nE : P.nE = X.E
  fr0 : ∀ i, i < P.nF → P.comp (P.free i).toNat = -1
  s0 : ∀ s, s < P.nS → P.comp s = -1 → P.on s = 0
  s1 : ∀ s, s < P.nS → P.comp s ≠ -1 → (∃ j, j < n ∧ s = sl j) ∨ ∃ c' : Nat, c' < P.nC ∧ c' ≠ c ∧ P.comp s = (c' : Int) ∧ P.mn c' ≠ 0
  nd : ∀ j, j < n → ∃ v : Nat, P.node (sl j) = (v : Int) ∧ v < X.n
  ndi : ∀ j j', j < n → j' < n → P.node (sl j) = P.node (sl j') → j = j'
  ed : ∀ e, e < X.E → InC P n sl e ∨ (X.onc e = false ∧ P.fr e = -1 ∧ P.to e = -1) ∨ (X.onc e = true ∧ ∃ f t c' : Nat, c' ≠ c ∧ f < P.nS ∧ t < P.nS ∧ P.fr e = (f : Int) ∧ P.to e = (t : Int) ∧ P.node f = ((X.sr e : Nat) : Int) ∧ P.node t = ((X.ds e : Nat) : Int) ∧ P.comp f = (c' : Int) ∧ P.comp t = (c' : Int))
  ends : ∀ e f t, InC P n sl e → P.fr e = ((f : Nat) : Int) → P.to e = ((t : Nat) : Int) → P.node f = ((X.sr e : Nat) : Int) ∧ P.node t = ((X.ds e : Nat) : Int)
  cl : ∀ e, e < X.E → X.onc e = true → X.cls e < X.nc
  eqv : ∀ e e', e < X.E → e' < X.E → X.onc e = true → X.onc e' = true → ¬ InC P n sl e → ¬ InC P n sl e' → (X.cls e = X.cls e' ↔ P.comp (P.fr e).toNat = P.comp (P.fr e').toNat)
  eqx : ∀ e e', e < X.E → e' < X.E → X.onc e = true → X.onc e' = true → InC P n sl e → ¬ InC P n sl e' → X.cls e ≠ X.cls e'
  c1 : ∀ c', c' < P.nC → c' ≠ c → P.mn c' ≠ 0 → cnt (X.inc P c') X.E ≠ 0 ∧ P.edg c' = ((cnt (X.inc P c') X.E : Nat) : Int) ∧ P.mn c' = cnt (fun s => P.comp s == ((c' : Nat) : Int)) P.nS
  m1 : ∀ c' j, c' < P.nC → c' ≠ c → j < P.mn c' → ∃ s v : Nat, s < P.nS ∧ P.mem c' j = (s : Int) ∧ P.comp s = ((c' : Nat) : Int) ∧ (∃ e, e < X.E ∧ X.onc e = true ∧ (P.fr e = (s : Int) ∨ P.to e = (s : Int))) ∧ P.node s = (v : Int) ∧ v < X.n
  m2 : ∀ c' j j', c' < P.nC → c' ≠ c → j < P.mn c' → j' < P.mn c' → P.node (P.mem c' j).toNat = P.node (P.mem c' j').toNat → j = j'
  o1 : ∀ s k, s < P.nS → (∀ j, j < n → s ≠ sl j) → k < P.on s → ∃ e : Nat, P.out s k = (e : Int) ∧ e < X.E ∧ P.fr e = (s : Int)
  o2 : ∀ s e, s < P.nS → (∀ j, j < n → s ≠ sl j) → e < X.E → P.fr e = (s : Int) → ∃ k, k < P.on s ∧ P.out s k = (e : Int)
  o3 : ∀ s k k', s < P.nS → (∀ j, j < n → s ≠ sl j) → k < k' → k' < P.on s → P.out s k < P.out s k'

section
variable {X : MD} {P PF : PS} {c n : Nat} {sl : Nat → Nat} {L : LS}

theorem Rest.meet (hgo : DGo P c n sl) (hr : Rest X P c n sl) (hf : DF P c n sl L PF) (H1 : ∀ e, InC P n sl e → (L.blk e ≠ 0 ↔ X.onc e = true))
    (H2 : ∀ e e', InC P n sl e → InC P n sl e' → X.onc e = true → X.onc e' = true → (L.blk e = L.blk e' ↔ X.cls e = X.cls e')) : Meet X PF := by
  have sp := hgo.sp
  have kle := hf.kle
  have nE : P.nE = X.E := hr.nE
  have hnS := hf.nS
  have hnC := hf.nC
  -- old slots of other components
  have comp_ns : ∀ s, s < P.nS → P.comp s ≠ -1 → ∀ k, s ≠ P.ns k := by
    intro s hs hc k e
    unfold PS.ns at e
    by_cases hk : k < P.nF
    · rw [if_pos hk] at e
      exact hc (by rw [e]; exact hr.fr0 _ (by omega))
    · rw [if_neg hk] at e; omega
  have csl : ∀ s, P.comp s ≠ ((c : Nat) : Int) → ∀ j, j < n → s ≠ sl j := by
    intro s hs j hj e
    exact hs (by rw [e]; exact hgo.comp j hj)
  have cs_old : ∀ c', c' < P.nC → P.mn c' ≠ 0 → ∀ β, c' ≠ P.cs β := by
    intro c' hc hm β e
    unfold PS.cs at e
    by_cases hβ : β < P.nU
    · rw [if_pos hβ] at e
      exact hm (by rw [e]; exact hgo.m0 _ (by omega))
    · rw [if_neg hβ] at e; omega
  -- a slot of another component is as it was
  have same : ∀ s, s < P.nS → ∀ c' : Nat, c' ≠ c → P.comp s = (c' : Int) → PF.node s = P.node s ∧ PF.comp s = P.comp s ∧ PF.on s = P.on s ∧ PF.out s = P.out s := by
    intro s hs c' hc he
    exact hf.soth s (csl s (by rw [he]; omega)) (fun k _ => comp_ns s hs (by rw [he]; omega) k)
  -- edges
  have ein : ∀ e, L.blk e ≠ 0 → InC P n sl e := fun e he => by
    obtain ⟨i, j, a, b, d⟩ := hf.ein e he
    exact ⟨i, j, a, b, d⟩
  have onb : ∀ e, X.onc e = true → InC P n sl e → L.blk e ≠ 0 := fun e h1 h2 => (H1 e h2).2 h1
  have eout : ∀ e, ¬ InC P n sl e → PF.fr e = P.fr e ∧ PF.to e = P.to e := fun e h => hf.eoth e (fun i j hi hj he => h ⟨i, j, hi, hj, he⟩)
  have eoff : ∀ e, InC P n sl e → X.onc e = false → PF.fr e = -1 ∧ PF.to e = -1 := by
    intro e h1 h2
    have hb : L.blk e = 0 := by
      by_cases hb : L.blk e = 0
      · exact hb
      · have := (H1 e h1).1 hb; rw [h2] at this; cases this
    obtain ⟨i, j, a, b, d⟩ := h1
    exact hf.eout i j e a b d hb
  -- the component of a moved edge
  have cmov : ∀ e, L.blk e ≠ 0 → ∃ k k', k < L.t ∧ k' < L.t ∧ PF.fr e = ((P.ns k : Nat) : Int) ∧ PF.to e = ((P.ns k' : Nat) : Int) ∧ P.fr e = ((L.nu k : Nat) : Int) ∧ P.to e = ((L.nu k' : Nat) : Int) ∧ PF.comp (P.ns k) = ((P.cs (L.blk e - 1) : Nat) : Int) ∧ PF.comp (P.ns k') = ((P.cs (L.blk e - 1) : Nat) : Int) ∧ L.blk e - 1 < L.nb := by
    intro e he
    obtain ⟨m1, m2, k, k', m3, m4, m5, m6, m7, m8, m9, m10⟩ := hf.emov e he
    have e1 : L.blk e - 1 + 1 = L.blk e := by omega
    have := kle (L.blk e) m1
    exact ⟨k, k', by omega, by omega, m7, m8, m9, m10, hf.scmp _ k (by omega) m3 (by rw [e1]; exact m4), hf.scmp _ k' (by omega) m5 (by rw [e1]; exact m6), by omega⟩
  have cfr : ∀ e, L.blk e ≠ 0 → PF.comp (PF.fr e).toNat = ((P.cs (L.blk e - 1) : Nat) : Int) := by
    intro e he
    obtain ⟨k, k', _, _, h3, _, _, _, h7, _⟩ := cmov e he
    rw [h3, Int.toNat_natCast]; exact h7
  -- an edge of another component
  have eold : ∀ e, e < X.E → ¬ InC P n sl e → X.onc e = true → ∃ f t c' : Nat, c' ≠ c ∧ f < P.nS ∧ t < P.nS ∧ P.fr e = (f : Int) ∧ P.to e = (t : Int) ∧ P.node f = ((X.sr e : Nat) : Int) ∧ P.node t = ((X.ds e : Nat) : Int) ∧ P.comp f = (c' : Int) ∧ P.comp t = (c' : Int) := by
    intro e he hn ho
    rcases hr.ed e he with h | ⟨h, _⟩ | ⟨_, h⟩
    · exact absurd h hn
    · rw [ho] at h; cases h
    · exact h
  have ofr : ∀ e, e < X.E → ¬ InC P n sl e → X.onc e = true → PF.comp (PF.fr e).toNat = P.comp (P.fr e).toNat ∧ ∃ c' : Nat, c' ≠ c ∧ c' < P.nC ∧ P.mn c' ≠ 0 ∧ P.comp (P.fr e).toNat = (c' : Int) := by
    intro e he hn ho
    obtain ⟨f, t, c', a1, a2, a3, a4, a5, a6, a7, a8, a9⟩ := eold e he hn ho
    rw [(eout e hn).1, a4, Int.toNat_natCast]
    refine ⟨(same f a2 c' a1 a8).2.1, ?_⟩
    rcases hr.s1 f a2 (by rw [a8]; omega) with ⟨j, j1, j2⟩ | ⟨d, d1, d2, d3, d4⟩
    · have := hgo.comp j j1
      rw [← j2, a8] at this
      omega
    · exact ⟨d, d2, d1, d4, d3⟩
  -- in component c' of PF, by P
  have incO : ∀ c', c' < P.nC → c' ≠ c → P.mn c' ≠ 0 → cnt (X.inc PF c') X.E = cnt (X.inc P c') X.E := by
    intro c' h1 h2 h3
    refine cnt_congr _ (fun e he => ?_)
    unfold MD.inc
    cases ho : X.onc e with
    | false => rfl
    | true =>
      rw [Bool.true_and, Bool.true_and]
      by_cases hi : InC P n sl e
      · have hb := onb e ho hi
        obtain ⟨j, t, j1, _, j3, _, _⟩ := hgo.frS hi
        rw [cfr e hb, j3, Int.toNat_natCast, hgo.comp j j1]
        have n1 := cs_old c' h1 h3 (L.blk e - 1)
        have e1 : (((P.cs (L.blk e - 1) : Nat) : Int) == ((c' : Nat) : Int)) = false := by
          rw [beq_eq_false_iff_ne]; omega
        have e2 : (((c : Nat) : Int) == ((c' : Nat) : Int)) = false := by
          rw [beq_eq_false_iff_ne]; omega
        rw [e1, e2]
      · rw [(ofr e he hi ho).1]
  have mnO : ∀ c', c' < P.nC → c' ≠ c → P.mn c' ≠ 0 → cnt (fun s => PF.comp s == ((c' : Nat) : Int)) PF.nS = cnt (fun s => P.comp s == ((c' : Nat) : Int)) P.nS := by
    intro c' h1 h2 h3
    have key : ∀ k, k < L.t → (PF.comp (P.ns k) == ((c' : Nat) : Int)) = false := by
      intro k hk
      obtain ⟨β, b1, b2, b3⟩ := hf.kfind hk
      rw [hf.scmp β k b1 b2 b3, beq_eq_false_iff_ne]
      have := cs_old c' h1 h3 β
      omega
    rw [hf.nS, cnt_more]
    · refine cnt_congr _ (fun s hs => ?_)
      by_cases hk : ∃ k, k < L.t ∧ s = P.ns k
      · obtain ⟨k, k1, k2⟩ := hk
        rw [k2, key k k1]
        by_cases hc : P.comp s = -1
        · rw [← k2, hc, eq_comm, beq_eq_false_iff_ne]; omega
        · exact absurd k2 (comp_ns s hs hc k)
      · by_cases hj : ∃ j, j < n ∧ s = sl j
        · obtain ⟨j, j1, j2⟩ := hj
          rw [j2, (hf.sold j j1).1, hgo.comp j j1]
          have e1 : ((-1 : Int) == ((c' : Nat) : Int)) = false := by rw [beq_eq_false_iff_ne]; omega
          have e2 : (((c : Nat) : Int) == ((c' : Nat) : Int)) = false := by rw [beq_eq_false_iff_ne]; omega
          rw [e1, e2]
        · rw [(hf.soth s (fun j j1 j2 => hj ⟨j, j1, j2⟩) (fun k k1 k2 => hk ⟨k, k1, k2⟩)).2.1]
    · intro s h4 h5
      rcases hf.range (s := s) (by rw [hnS]; exact h5) with h6 | ⟨k, k1, k2⟩
      · omega
      · rw [k2]; exact key k k1
  -- the components in use
  have cuse : ∀ c', c' < PF.nC → PF.mn c' ≠ 0 → (∃ β, β < L.nb ∧ c' = P.cs β) ∨ (c' < P.nC ∧ c' ≠ c ∧ P.mn c' ≠ 0 ∧ (∀ β, c' ≠ P.cs β) ∧ PF.mn c' = P.mn c' ∧ PF.mem c' = P.mem c' ∧ PF.edg c' = P.edg c') := by
    intro c' h1 h2
    by_cases hb : ∃ β, β < L.nb ∧ c' = P.cs β
    · exact .inl hb
    · right
      have hc : c' ≠ c := fun e => h2 (by rw [e]; exact hf.cc)
      obtain ⟨a1, a2, a3⟩ := hf.coth c' hc (fun β b1 b2 => hb ⟨β, b1, b2⟩)
      have h3 : c' < P.nC := by
        rcases hf.crange h1 with h | h
        · exact h
        · exact absurd h hb
      rw [a1] at h2
      exact ⟨h3, hc, h2, cs_old c' h3 h2, a1, a2, a3⟩
  -- a new component
  have kb1 : ∀ β, β < L.nb → L.kb β < L.kb (β + 1) := by
    intro β hβ
    obtain ⟨e, he⟩ := hf.full (β + 1) (by omega) (by omega)
    obtain ⟨m1, m2, k, k', m3, m4, _⟩ := hf.emov e (by omega)
    rw [he] at m3 m4
    rw [show β + 1 - 1 = β by omega] at m3
    omega
  have nuc : ∀ k, k < L.t → ∃ j, j < n ∧ L.nu k = sl j := by
    intro k hk
    obtain ⟨e, e1, e2⟩ := hf.tou k hk
    obtain ⟨k1, k2, a1, a2, a3, a4, a5, a6, _⟩ := cmov e e1
    obtain ⟨j, t, j1, j2, j3, ⟨j', j4, j5⟩, j6⟩ := hgo.frS (ein e e1)
    rcases e2 with e2 | e2
    · have : k1 = k := sp.ns_inj (by rw [a3] at e2; omega)
      subst this
      exact ⟨j, j1, by rw [j3] at a5; omega⟩
    · have : k2 = k := sp.ns_inj (by rw [a4] at e2; omega)
      subst this
      exact ⟨j', j4, by rw [j6] at a6; omega⟩
  have incN : ∀ β, β < L.nb → ∀ e, e < X.E → X.inc PF (P.cs β) e = (L.blk e == β + 1) := by
    intro β hβ e he
    unfold MD.inc
    cases ho : X.onc e with
    | false =>
      have : L.blk e = 0 := by
        by_cases hb : L.blk e = 0
        · exact hb
        · have := (H1 e (ein e hb)).1 hb; rw [ho] at this; cases this
      rw [this]; rfl
    | true =>
      rw [Bool.true_and]
      by_cases hi : InC P n sl e
      · have hb := onb e ho hi
        obtain ⟨_, _, _, _, _, _, _, _, _, _, hlt⟩ := cmov e hb
        rw [cfr e hb]
        by_cases e1 : L.blk e = β + 1
        · rw [e1]; simp
        · have e2 : P.cs (L.blk e - 1) ≠ P.cs β := fun h => by have := sp.cs_inj h; omega
          have e3 : (((P.cs (L.blk e - 1) : Nat) : Int) == ((P.cs β : Nat) : Int)) = false := by rw [beq_eq_false_iff_ne]; omega
          have e4 : (L.blk e == β + 1) = false := by rw [beq_eq_false_iff_ne]; exact e1
          rw [e3, e4]
      · obtain ⟨h1, c', h2, h3, h4, h5⟩ := ofr e he hi ho
        have hb : L.blk e = 0 := by
          by_cases hb : L.blk e = 0
          · exact hb
          · exact absurd (ein e hb) hi
        rw [h1, h5, hb]
        have := cs_old c' h3 h4 β
        have e3 : (((c' : Nat) : Int) == ((P.cs β : Nat) : Int)) = false := by rw [beq_eq_false_iff_ne]; omega
        rw [e3]
        rfl
  refine
  { nE := by rw [hf.nE]; exact nE
    s0 := fun s hs hc => ?_
    s1 := fun s hs hc => ?_
    off := fun e he ho => ?_
    on := fun e he ho => ?_
    cl := hr.cl
    eqv := fun e e' he he' ho ho' => ?_
    c1 := fun c' hc hm => ?_
    m1 := fun c' j hc hj => ?_
    m2 := fun c' j j' hc hj hj' hn => ?_
    o1 := fun s k hs hk => ?_
    o2 := fun s e hs he hfr => ?_
    o3 := fun s k k' hs hkk hk => ?_ }
  · -- s0
    by_cases hk : ∃ k, k < L.t ∧ s = P.ns k
    · obtain ⟨k, k1, k2⟩ := hk
      obtain ⟨β, b1, b2, b3⟩ := hf.kfind k1
      rw [k2, hf.scmp β k b1 b2 b3] at hc
      omega
    · have hs2 : s < P.nS := by
        rcases hf.range hs with h | h
        · exact h
        · exact absurd h hk
      by_cases hj : ∃ j, j < n ∧ s = sl j
      · obtain ⟨j, j1, j2⟩ := hj
        rw [j2]; exact (hf.sold j j1).2
      · obtain ⟨_, a2, a3, _⟩ := hf.soth s (fun j j1 j2 => hj ⟨j, j1, j2⟩) (fun k k1 k2 => hk ⟨k, k1, k2⟩)
        rw [a2] at hc
        rw [a3]; exact hr.s0 s hs2 hc
  · -- s1
    by_cases hk : ∃ k, k < L.t ∧ s = P.ns k
    · obtain ⟨k, k1, k2⟩ := hk
      obtain ⟨β, b1, b2, b3⟩ := hf.kfind k1
      refine ⟨P.cs β, hf.cs_lt sp b1, by rw [k2]; exact hf.scmp β k b1 b2 b3, ?_⟩
      rw [hf.cmn β b1]; omega
    · have hs2 : s < P.nS := by
        rcases hf.range hs with h | h
        · exact h
        · exact absurd h hk
      by_cases hj : ∃ j, j < n ∧ s = sl j
      · obtain ⟨j, j1, j2⟩ := hj
        rw [j2] at hc; exact absurd (hf.sold j j1).1 hc
      · obtain ⟨_, a2, a3, _⟩ := hf.soth s (fun j j1 j2 => hj ⟨j, j1, j2⟩) (fun k k1 k2 => hk ⟨k, k1, k2⟩)
        rw [a2] at hc ⊢
        rcases hr.s1 s hs2 hc with h | ⟨c', d1, d2, d3, d4⟩
        · exact absurd h hj
        · refine ⟨c', by omega, d3, ?_⟩
          rw [(hf.coth c' d2 (fun β _ => cs_old c' d1 d4 β)).1]; exact d4
  · -- off
    by_cases hi : InC P n sl e
    · exact eoff e hi ho
    · rw [(eout e hi).1, (eout e hi).2]
      rcases hr.ed e he with h | ⟨_, h⟩ | ⟨h, _⟩
      · exact absurd h hi
      · exact h
      · rw [ho] at h; cases h
  · -- on
    by_cases hi : InC P n sl e
    · obtain ⟨k, k', a1, a2, a3, a4, a5, a6, a7, a8, a9⟩ := cmov e (onb e ho hi)
      obtain ⟨n1, n2⟩ := hr.ends e _ _ hi a5 a6
      exact ⟨P.ns k, P.ns k', P.cs (L.blk e - 1), hf.ns_lt sp a1, hf.ns_lt sp a2, a3, a4, by rw [hf.snew k a1]; exact n1, by rw [hf.snew k' a2]; exact n2, a7, a8⟩
    · obtain ⟨f, t, c', a1, a2, a3, a4, a5, a6, a7, a8, a9⟩ := eold e he hi ho
      obtain ⟨q1, q2, _⟩ := same f a2 c' a1 a8
      obtain ⟨r1, r2, _⟩ := same t a3 c' a1 a9
      exact ⟨f, t, c', by omega, by omega, by rw [(eout e hi).1]; exact a4, by rw [(eout e hi).2]; exact a5, by rw [q1]; exact a6, by rw [r1]; exact a7, by rw [q2]; exact a8, by rw [r2]; exact a9⟩
  · -- eqv
    by_cases hi : InC P n sl e <;> by_cases hi' : InC P n sl e'
    · have b := onb e ho hi
      have b' := onb e' ho' hi'
      rw [← H2 e e' hi hi' ho ho', cfr e b, cfr e' b']
      constructor
      · intro h; rw [h]
      · intro h
        have : P.cs (L.blk e - 1) = P.cs (L.blk e' - 1) := by omega
        have := sp.cs_inj this
        omega
    · have b := onb e ho hi
      obtain ⟨h1, c', h2, h3, h4, h5⟩ := ofr e' he' hi' ho'
      have := cs_old c' h3 h4 (L.blk e - 1)
      rw [cfr e b, h1, h5]
      have := hr.eqx e e' he he' ho ho' hi hi'
      constructor
      · intro h; exact absurd h this
      · intro h; omega
    · have b := onb e' ho' hi'
      obtain ⟨h1, c', h2, h3, h4, h5⟩ := ofr e he hi ho
      have := cs_old c' h3 h4 (L.blk e' - 1)
      rw [cfr e' b, h1, h5]
      have := hr.eqx e' e he' he ho' ho hi' hi
      constructor
      · intro h; exact absurd h.symm this
      · intro h; omega
    · rw [(ofr e he hi ho).1, (ofr e' he' hi' ho').1]
      exact hr.eqv e e' he he' ho ho' hi hi'
  · -- c1
    rcases cuse c' hc hm with ⟨β, b1, rfl⟩ | ⟨d1, d2, d3, d4, d5, d6, d7⟩
    · have h1 : cnt (X.inc PF (P.cs β)) X.E = cnt (fun e => L.blk e == β + 1) P.nE := by
        rw [nE]; exact cnt_congr _ (fun e he => incN β b1 e he)
      refine ⟨?_, by rw [h1]; exact hf.cedg β b1, ?_⟩
      · rw [h1]
        obtain ⟨e, he⟩ := hf.full (β + 1) (by omega) (by omega)
        have hlt := (hf.emov e (by omega)).2.1
        intro h0
        have := cnt_lt (p := fun e => L.blk e == β + 1) hlt (by show (L.blk e == β + 1) = true; rw [he]; simp)
        omega
      · rw [hf.cmn β b1]
        symm
        refine cnt_enum (f := fun j => P.ns (L.kb β + j)) (fun j hj => ?_) (fun s hs hp => ?_) (fun j j' hj hj' e => ?_)
        · have := kle (β + 1) (by omega)
          refine ⟨hf.ns_lt sp (by omega), ?_⟩
          show (PF.comp (P.ns (L.kb β + j)) == _) = true
          rw [hf.scmp β (L.kb β + j) b1 (by omega) (by omega)]; simp
        · have hp : PF.comp s = ((P.cs β : Nat) : Int) := by simpa using hp
          by_cases hk : ∃ k, k < L.t ∧ s = P.ns k
          · obtain ⟨k, k1, k2⟩ := hk
            obtain ⟨β', b1', b2', b3'⟩ := hf.kfind k1
            rw [k2, hf.scmp β' k b1' b2' b3'] at hp
            have : β' = β := sp.cs_inj (by omega)
            subst this
            exact ⟨k - L.kb β', by omega, by show P.ns (L.kb β' + (k - L.kb β')) = s; rw [show L.kb β' + (k - L.kb β') = k by omega]; exact k2.symm⟩
          · exfalso
            have hs2 : s < P.nS := by
              rcases hf.range hs with h | h
              · exact h
              · exact absurd h hk
            by_cases hj : ∃ j, j < n ∧ s = sl j
            · obtain ⟨j, j1, j2⟩ := hj
              rw [j2, (hf.sold j j1).1] at hp
              omega
            · obtain ⟨_, a2, a3, _⟩ := hf.soth s (fun j j1 j2 => hj ⟨j, j1, j2⟩) (fun k k1 k2 => hk ⟨k, k1, k2⟩)
              rw [a2] at hp
              rcases hr.s1 s hs2 (by rw [hp]; omega) with h | ⟨c', d1, d2, d3, d4⟩
              · exact absurd h hj
              · have := cs_old c' d1 d4 β
                rw [hp] at d3
                omega
        · have e : P.ns (L.kb β + j) = P.ns (L.kb β + j') := e
          have := sp.ns_inj e
          omega
    · obtain ⟨q1, q2, q3⟩ := hr.c1 c' d1 d2 d3
      rw [incO c' d1 d2 d3, d7, d5, mnO c' d1 d2 d3]
      exact ⟨q1, q2, q3⟩
  · -- m1
    rcases cuse c' hc (by omega) with ⟨β, b1, rfl⟩ | ⟨d1, d2, d3, d4, d5, d6, d7⟩
    · rw [hf.cmn β b1] at hj
      have := kle (β + 1) (by omega)
      have hk : L.kb β + j < L.t := by omega
      obtain ⟨j', j1, j2⟩ := nuc _ hk
      obtain ⟨v, v1, v2⟩ := hr.nd j' j1
      obtain ⟨e, e1, e2⟩ := hf.tou _ hk
      exact ⟨P.ns (L.kb β + j), v, hf.ns_lt sp hk, hf.cmem β j b1 hj, hf.scmp β _ b1 (by omega) (by omega), ⟨e, by rw [← nE]; exact (hf.emov e e1).2.1, (H1 e (ein e e1)).1 e1, e2⟩, by rw [hf.snew _ hk, j2]; exact v1, v2⟩
    · rw [d5] at hj
      rw [d6]
      obtain ⟨s, v, a1, a2, a3, ⟨e, e1, e2, e3⟩, a5, a6⟩ := hr.m1 c' j d1 d2 hj
      obtain ⟨q1, q2, _⟩ := same s a1 c' d2 a3
      have hne : ¬ InC P n sl e := by
        intro hi
        obtain ⟨j', t, j1, _, j3, ⟨j'', j4, j5⟩, j6⟩ := hgo.frS hi
        rcases e3 with e3 | e3
        · have := hgo.comp j' j1
          rw [j3] at e3
          have : sl j' = s := by omega
          rw [← this, hgo.comp j' j1] at a3; omega
        · rw [j6] at e3
          have : sl j'' = s := by omega
          rw [← this, hgo.comp j'' j4] at a3; omega
      exact ⟨s, v, by omega, a2, by rw [q2]; exact a3, ⟨e, e1, e2, by rw [(eout e hne).1, (eout e hne).2]; exact e3⟩, by rw [q1]; exact a5, a6⟩
  · -- m2
    rcases cuse c' hc (by omega) with ⟨β, b1, rfl⟩ | ⟨d1, d2, d3, d4, d5, d6, d7⟩
    · rw [hf.cmn β b1] at hj hj'
      have := kle (β + 1) (by omega)
      rw [hf.cmem β j b1 hj, hf.cmem β j' b1 hj', Int.toNat_natCast, Int.toNat_natCast, hf.snew _ (by omega), hf.snew _ (by omega)] at hn
      obtain ⟨i, i1, i2⟩ := nuc (L.kb β + j) (by omega)
      obtain ⟨i', i1', i2'⟩ := nuc (L.kb β + j') (by omega)
      rw [i2, i2'] at hn
      have hii := hr.ndi i i' i1 i1' hn
      have := hf.nui β (L.kb β + j) (L.kb β + j') b1 (by omega) (by omega) (by omega) (by omega) (by rw [i2, i2', hii])
      omega
    · rw [d5] at hj hj'
      rw [d6] at hn
      obtain ⟨s, v, a1, a2, a3, _⟩ := hr.m1 c' j d1 d2 hj
      obtain ⟨s', v', a1', a2', a3', _⟩ := hr.m1 c' j' d1 d2 hj'
      refine hr.m2 c' j j' d1 d2 hj hj' ?_
      rw [a2, a2', Int.toNat_natCast, Int.toNat_natCast] at hn ⊢
      rw [(same s a1 c' d2 a3).1, (same s' a1' c' d2 a3').1] at hn
      exact hn
  · -- o1
    by_cases hkk : ∃ k, k < L.t ∧ s = P.ns k
    · obtain ⟨q, k1, k2⟩ := hkk
      rw [k2] at hk ⊢
      obtain ⟨e, e1, e2, e3⟩ := hf.out1 q k k1 hk
      exact ⟨e, e1, by rw [← nE]; exact (hf.emov e e2).2.1, e3⟩
    · have hs2 : s < P.nS := by
        rcases hf.range hs with h | h
        · exact h
        · exact absurd h hkk
      by_cases hj : ∃ j, j < n ∧ s = sl j
      · obtain ⟨j, j1, j2⟩ := hj
        rw [j2, (hf.sold j j1).2] at hk; omega
      · have hj' : ∀ j, j < n → s ≠ sl j := fun j j1 j2 => hj ⟨j, j1, j2⟩
        obtain ⟨_, _, a3, a4⟩ := hf.soth s hj' (fun k k1 k2 => hkk ⟨k, k1, k2⟩)
        rw [a3] at hk
        rw [a4]
        obtain ⟨e, e1, e2, e3⟩ := hr.o1 s k hs2 hj' hk
        have hne : ¬ InC P n sl e := by
          intro hi
          obtain ⟨j, t, j1, _, j3, _, _⟩ := hgo.frS hi
          rw [j3] at e3
          exact hj' j j1 (by omega)
        exact ⟨e, e1, e2, by rw [(eout e hne).1]; exact e3⟩
  · -- o2
    by_cases hi : InC P n sl e
    · cases ho : X.onc e with
      | false => rw [(eoff e hi ho).1] at hfr; omega
      | true =>
        have b := onb e ho hi
        obtain ⟨k, k', a1, a2, a3, _⟩ := cmov e b
        have : s = P.ns k := by rw [hfr] at a3; omega
        subst this
        exact hf.out2 k e a1 b a3
    · rw [(eout e hi).1] at hfr
      cases ho : X.onc e with
      | false =>
        rcases hr.ed e he with h | ⟨_, h, _⟩ | ⟨h, _⟩
        · exact absurd h hi
        · rw [h] at hfr; omega
        · rw [ho] at h; cases h
      | true =>
        obtain ⟨f, t, c', a1, a2, a3, a4, a5, a6, a7, a8, a9⟩ := eold e he hi ho
        have : f = s := by rw [hfr] at a4; omega
        subst this
        obtain ⟨_, _, q3, q4⟩ := same f a2 c' a1 a8
        rw [q3, q4]
        exact hr.o2 f e a2 (csl f (by rw [a8]; omega)) he hfr
  · -- o3
    by_cases hkx : ∃ k, k < L.t ∧ s = P.ns k
    · obtain ⟨q, k1, k2⟩ := hkx
      rw [k2] at hk ⊢
      exact hf.out3 q k k' k1 hkk hk
    · have hs2 : s < P.nS := by
        rcases hf.range hs with h | h
        · exact h
        · exact absurd h hkx
      by_cases hj : ∃ j, j < n ∧ s = sl j
      · obtain ⟨j, j1, j2⟩ := hj
        rw [j2, (hf.sold j j1).2] at hk; omega
      · have hj' : ∀ j, j < n → s ≠ sl j := fun j j1 j2 => hj ⟨j, j1, j2⟩
        obtain ⟨_, _, a3, a4⟩ := hf.soth s hj' (fun k k1 k2 => hkx ⟨k, k1, k2⟩)
        rw [a3] at hk
        rw [a4]
        exact hr.o3 s k k' hs2 hj' hkk hk
end
end Go.Proofs.Qxb6602148a
