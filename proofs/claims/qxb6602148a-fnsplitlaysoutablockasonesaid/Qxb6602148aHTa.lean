/-
  PLAIN: the search's steps that go on at the same node: an entry passed over; an edge back.
-/
import Derived.Test.Qxb6602148aHT
namespace Go.Proofs.Qxb6602148a
set_option linter.unusedVariables false

section
variable {g : UG} {s : HS}

/-- One entry more of the top node has been looked at. -/
def HS.adv (s : HS) : HS := { s with sc := up s.sc s.top (s.sc s.top + 1) }

theorem HInv.adv (ok : g.Ok) (h : HInv g s) (hq : s.sc s.top < g.st (s.top + 1)) (hb : s.idx (g.eN (s.sc s.top)) ≠ 0) (hs : s.seen (g.eE (s.sc s.top)))
    (hl : s.idx (g.eN (s.sc s.top)) < s.idx s.top → g.eE (s.sc s.top) = s.te s.top) : HInv g s.adv := by
  obtain ⟨t1, t2, t3⟩ := h.topidx
  obtain ⟨P, L, M, B⟩ := h
  have bd := P.scbd s.top t1
  have sc' : ∀ v, s.adv.sc v = up s.sc s.top (s.sc s.top + 1) v := fun _ => rfl
  have lt : ∀ v q, q < s.adv.sc v → q < s.sc v ∨ (v = s.top ∧ q = s.sc s.top) := by
    intro v q hq
    rw [sc'] at hq
    by_cases hv : v = s.top
    · subst hv; rw [up_same] at hq; omega
    · rw [up_other _ _ hv] at hq; exact .inl hq
  have ge : ∀ v q, q < s.sc v → q < s.adv.sc v := by
    intro v q hq
    rw [sc']
    by_cases hv : v = s.top
    · subst hv; rw [up_same]; omega
    · rw [up_other _ _ hv]; exact hq
  refine ⟨⟨P.mpos, P.ndlt, P.ndidx, P.root, P.idxle, P.idxlt, P.idxinj, P.tree, ?_, ?_, ?_, ?_, ?_, P.seenends, ?_, P.hinb, P.hile, P.hipath⟩, ⟨L.wit, ?_⟩, ⟨M.posle, M.posmono, M.pos1, M.k0, M.poste, M.seg, M.below, M.metex, M.metinj, M.metblk, M.above⟩, ⟨B.blkle, B.b1, B.bout, B.b2, B.b3, B.b4⟩⟩
  · intro v hv h0
    have hne : v ≠ s.top := fun e => t2 (by rw [← e]; exact h0)
    rw [sc', up_other _ _ hne]
    exact P.scun v hv h0
  · intro v hv
    rw [sc']
    by_cases e : v = s.top
    · subst e; rw [up_same]; omega
    · rw [up_other _ _ e]; exact P.scbd v hv
  · intro v h0 hn
    have hne : v ≠ s.top := fun e => hn (by rw [e]; exact t3)
    rw [sc', up_other _ _ hne]
    exact P.scfin v h0 hn
  · intro v q hv h1 h2
    rcases lt v q h2 with h | ⟨rfl, rfl⟩
    · exact P.scvis v q hv h1 h
    · exact hb
  · intro v q hv h1 h2
    rcases lt v q h2 with h | ⟨rfl, rfl⟩
    · exact P.scseen v q hv h1 h
    · exact hs
  · intro e a b h1 h2 h3
    rcases P.deep e a b h1 h2 h3 with h | ⟨q, q1, q2, q3⟩
    · exact .inl h
    · exact .inr ⟨q, q1, ge _ _ q2, q3⟩
  · intro j hj a q ha h1 h2 h3 h4 h5 h6
    rcases lt a q h4 with h | ⟨rfl, rfl⟩
    · exact L.lowL j hj a q ha h1 h2 h3 h h5 h6
    · have hjm : j = s.m - 1 := by
        rcases Nat.lt_or_ge (j + 1) s.m with hlt | hge
        · have a1 : s.idx s.top < s.idx (s.nd (j + 1)) := h2 hlt
          have a2 : s.idx (s.nd (j + 1)) ≤ s.idx s.top := by
            rcases Nat.lt_or_ge (j + 1) (s.m - 1) with g1 | g1
            · exact Nat.le_of_lt (P.ndidx _ _ g1 (by omega))
            · unfold HS.top; rw [show j + 1 = s.m - 1 by omega]; omega
          omega
        · have hj' : j < s.m := hj
          omega
      subst hjm
      exact absurd (hl h5) h6

/-- The edge by which the top was come to. -/
theorem HInv.skip_via (ok : g.Ok) (h : HInv g s) (hm : 2 ≤ s.m) (hq : s.sc s.top < g.st (s.top + 1)) (he : g.eE (s.sc s.top) = s.te s.top) : HInv g s.adv := by
  obtain ⟨t1, t2, t3⟩ := h.topidx
  have bd := h.P.scbd s.top t1
  have i1 := UG.inc_at t1 bd.1 hq
  have tr := h.P.tree (s.m - 2) (by omega)
  rw [show s.m - 2 + 1 = s.m - 1 by omega] at tr
  rw [he] at i1
  have hb : g.eN (s.sc s.top) = s.nd (s.m - 2) := by
    rcases ok.two _ _ _ _ _ i1 tr with ⟨h1, _⟩ | ⟨h1, _⟩
    · have := h.nd_inj (by omega) (by omega : s.m - 1 < s.m) h1
      omega
    · exact h1.symm
  refine h.adv ok hq ?_ ?_ (fun _ => he)
  · rw [hb]; have := h.nd_pos (show s.m - 2 < s.m by omega); omega
  · obtain ⟨p1, p2⟩ := h.M.poste (s.m - 1) (by omega) (by omega)
    exact .inl ⟨_, p1, by rw [p2, he]; rfl⟩

/-- An edge to a node that was visited later: it has been met from there. -/
theorem HInv.skip_down (ok : g.Ok) (h : HInv g s) (hq : s.sc s.top < g.st (s.top + 1)) (hb : s.idx s.top < s.idx (g.eN (s.sc s.top))) : HInv g s.adv := by
  obtain ⟨t1, t2, t3⟩ := h.topidx
  have bd := h.P.scbd s.top t1
  have i1 := UG.inc_at t1 bd.1 hq
  refine h.adv ok hq (by omega) ?_ (fun hh => by omega)
  obtain ⟨_, q', g1, g2, g3, g4⟩ := ok.symm _ _ _ i1
  have hon : ¬ s.on (g.eN (s.sc s.top)) := by
    rintro ⟨j, hj, e⟩
    have hle : s.idx (s.nd j) ≤ s.idx s.top := h.nd_le (show j ≤ s.m - 1 by omega) (by have := h.P.mpos; omega)
    rw [e] at hle
    omega
  have fin := h.P.scfin _ (show s.idx (g.eN (s.sc s.top)) ≠ 0 by omega) hon
  rw [← g4]
  exact h.P.scseen _ q' (ok.lt _ _ _ i1).1 g1 (by omega)

/-- An edge that has not been met, from the top back to a node visited before. -/
theorem HInv.back_facts (ok : g.Ok) (h : HInv g s) (hq : s.sc s.top < g.st (s.top + 1)) (hb0 : s.idx (g.eN (s.sc s.top)) ≠ 0) (hb : s.idx (g.eN (s.sc s.top)) < s.idx s.top) (hv : g.eE (s.sc s.top) ≠ s.te s.top) :
    2 ≤ s.m ∧ ¬ s.seen (g.eE (s.sc s.top)) ∧ ∃ a, a < s.m - 1 ∧ s.nd a = g.eN (s.sc s.top) := by
  obtain ⟨t1, t2, t3⟩ := h.topidx
  have bd := h.P.scbd s.top t1
  have i1 := UG.inc_at t1 bd.1 hq
  have i2 := ok.symm _ _ _ i1
  refine ⟨?_, ?_, ?_⟩
  · rcases Nat.lt_or_ge s.m 2 with hlt | hge
    · have hm : s.m - 1 = 0 := by omega
      have : s.idx s.top = 1 := by unfold HS.top; rw [hm]; exact h.P.root
      omega
    · exact hge
  · intro hs
    rcases h.P.deep _ _ _ hs i2 hb with e | ⟨q, q1, q2, q3⟩
    · exact hv e.symm
    · have := ok.uniq s.top q (s.sc s.top) t1 q1 (by omega) bd.1 hq q3
      omega
  · have hon : s.on (g.eN (s.sc s.top)) := by
      apply Classical.byContradiction
      intro hn
      obtain ⟨_, q', g1, g2, g3, g4⟩ := i2
      have k1 := h.P.hinb _ q' hb0 hn g1 g2
      rw [g3] at k1
      have hjm : s.m - 1 < s.m := by have := h.P.mpos; omega
      rcases h.P.hipath _ (s.m - 1) hb0 hn hjm with k2 | k2
      · have : s.idx s.top < s.idx (g.eN (s.sc s.top)) := k2
        omega
      · have : s.hi (g.eN (s.sc s.top)) < s.idx s.top := k2
        omega
    obtain ⟨a, ha, e⟩ := hon
    refine ⟨a, ?_, e⟩
    rcases Nat.lt_or_ge a (s.m - 1) with hlt | hge
    · exact hlt
    · have : s.nd a = s.top := by unfold HS.top; rw [show a = s.m - 1 by omega]
      rw [← e, this] at hb
      omega

/-- The ring that an edge back closes. -/
theorem HInv.ring (ok : g.Ok) (h : HInv g s) {a e : Nat} (ha : a < s.m - 1) (he : g.inc s.top e (s.nd a)) {b : Nat} (hb : a < b) (hb' : b ≤ s.m - 1) : g.Eqv (s.te (s.nd b)) (s.te s.top) ∧ g.Eqv e (s.te s.top) := by
  have rg := fun x i j (hi : a ≤ i) (hi' : i ≤ s.m - 1) (hj : a ≤ j) (hj' : j ≤ s.m - 1) (nx : s.nd i ≠ x) (ny : s.nd j ≠ x) =>
    ok.ring s.nd a (s.m - 1) (fun i j _ hi _ hj e => h.nd_inj (by omega) (by omega) e) (fun i _ hi => ⟨_, h.P.tree i (by omega)⟩) ⟨e, he⟩ x i j hi hi' hj hj' nx ny
  have S : ∀ x u v, (∃ i, a ≤ i ∧ i ≤ s.m - 1 ∧ s.nd i = u) → (∃ i, a ≤ i ∧ i ≤ s.m - 1 ∧ s.nd i = v) → u ≠ x → v ≠ x → g.Cn x u v := by
    rintro x u v ⟨i, i1, i2, rfl⟩ ⟨j, j1, j2, rfl⟩ nu nv
    exact rg x i j i1 i2 j1 j2 nu nv
  have tr : ∀ c, a < c → c ≤ s.m - 1 → ∀ u v, g.inc u (s.te (s.nd c)) v → ∃ i, a ≤ i ∧ i ≤ s.m - 1 ∧ s.nd i = u := by
    intro c c1 c2 u v huv
    have t := h.P.tree (c - 1) (by omega)
    rw [show c - 1 + 1 = c by omega] at t
    rcases ok.two _ _ _ _ _ t huv with ⟨rfl, _⟩ | ⟨rfl, _⟩
    · exact ⟨c - 1, by omega, by omega, rfl⟩
    · exact ⟨c, by omega, by omega, rfl⟩
  have htop : ∀ u v, g.inc u (s.te s.top) v → ∃ i, a ≤ i ∧ i ≤ s.m - 1 ∧ s.nd i = u := tr (s.m - 1) ha (Nat.le_refl _)
  refine ⟨UG.eqv_of S (tr b hb hb') htop, UG.eqv_of S ?_ htop⟩
  intro u v huv
  rcases ok.two _ _ _ _ _ he huv with ⟨rfl, _⟩ | ⟨rfl, _⟩
  · exact ⟨s.m - 1, by omega, Nat.le_refl _, rfl⟩
  · exact ⟨a, Nat.le_refl _, by omega, rfl⟩

def HS.back (s : HS) (e b : Nat) : HS := { s with sc := up s.sc s.top (s.sc s.top + 1), met := up s.met s.k e, k := s.k + 1, low := up s.low s.top (min (s.low s.top) b) }

theorem HInv.back (ok : g.Ok) (h : HInv g s) (hq : s.sc s.top < g.st (s.top + 1)) (hb0 : s.idx (g.eN (s.sc s.top)) ≠ 0) (hb : s.idx (g.eN (s.sc s.top)) < s.idx s.top) (hv : g.eE (s.sc s.top) ≠ s.te s.top) :
    HInv g (s.back (g.eE (s.sc s.top)) (s.idx (g.eN (s.sc s.top)))) := by
  obtain ⟨hm, hns, a, ha, hea⟩ := h.back_facts ok hq hb0 hb hv
  obtain ⟨t1, t2, t3⟩ := h.topidx
  have bd := h.P.scbd s.top t1
  have i1 := UG.inc_at t1 bd.1 hq
  have rg := fun (b : Nat) (hb : a < b) (hb' : b ≤ s.m - 1) => h.ring ok ha (by rw [hea]; exact i1) hb hb'
  have topj : ∀ j, j < s.m → s.nd j = s.top → j = s.m - 1 := fun j hj e => h.nd_inj hj (by omega) e
  obtain ⟨P, L, M, B⟩ := h
  generalize hE : g.eE (s.sc s.top) = e at *
  generalize hBn : g.eN (s.sc s.top) = b at *
  have seen' : ∀ x, (s.back e (s.idx b)).seen x → s.seen x ∨ x = e := by
    rintro x (⟨i, hi, hx⟩ | hx)
    · have hi' : i < s.k + 1 := hi
      have hx' : up s.met s.k e i = x := hx
      by_cases hk : i = s.k
      · subst hk; rw [up_same] at hx'; exact .inr hx'.symm
      · rw [up_other _ _ hk] at hx'; exact .inl (.inl ⟨i, by omega, hx'⟩)
    · exact .inl (.inr hx)
  have seenof : ∀ x, s.seen x → (s.back e (s.idx b)).seen x := by
    rintro x (⟨i, hi, hx⟩ | hx)
    · refine .inl ⟨i, show i < s.k + 1 by omega, ?_⟩
      show up s.met s.k e i = x
      rw [up_other _ _ (by omega)]; exact hx
    · exact .inr hx
  have seene : (s.back e (s.idx b)).seen e := .inl ⟨s.k, show s.k < s.k + 1 by omega, up_same _ _ _⟩
  have sc' : ∀ v, (s.back e (s.idx b)).sc v = up s.sc s.top (s.sc s.top + 1) v := fun _ => rfl
  have lt : ∀ v q, q < (s.back e (s.idx b)).sc v → q < s.sc v ∨ (v = s.top ∧ q = s.sc s.top) := by
    intro v q hq
    rw [sc'] at hq
    by_cases hv : v = s.top
    · subst hv; rw [up_same] at hq; omega
    · rw [up_other _ _ hv] at hq; exact .inl hq
  have ge : ∀ v q, q < s.sc v → q < (s.back e (s.idx b)).sc v := by
    intro v q hq
    rw [sc']
    by_cases hv : v = s.top
    · subst hv; rw [up_same]; omega
    · rw [up_other _ _ hv]; exact hq
  have low' : ∀ v, (s.back e (s.idx b)).low v = up s.low s.top (min (s.low s.top) (s.idx b)) v := fun _ => rfl
  have lowle : ∀ v, (s.back e (s.idx b)).low v ≤ s.low v := by
    intro v
    rw [low']
    by_cases hv : v = s.top
    · subst hv; rw [up_same]; omega
    · rw [up_other _ _ hv]; omega
  have met' : ∀ i, i < s.k → (s.back e (s.idx b)).met i = s.met i := fun i hi => up_other _ _ (by omega)
  have metk : (s.back e (s.idx b)).met s.k = e := up_same _ _ _
  have nmet : ∀ i, i < s.k → s.met i ≠ e := fun i hi hx => hns (.inl ⟨i, hi, hx⟩)
  refine ⟨⟨P.mpos, P.ndlt, P.ndidx, P.root, P.idxle, P.idxlt, P.idxinj, P.tree, ?_, ?_, ?_, ?_, ?_, ?_, ?_, P.hinb, P.hile, P.hipath⟩, ⟨?_, ?_⟩, ⟨?_, M.posmono, M.pos1, ?_, ?_, ?_, ?_, ?_, ?_, ?_, ?_⟩, ⟨B.blkle, B.b1, B.bout, B.b2, B.b3, B.b4⟩⟩
  · intro v hv h0
    have hne : v ≠ s.top := fun e => t2 (by rw [← e]; exact h0)
    rw [sc', up_other _ _ hne]
    exact P.scun v hv h0
  · intro v hv
    rw [sc']
    by_cases e : v = s.top
    · subst e; rw [up_same]; omega
    · rw [up_other _ _ e]; exact P.scbd v hv
  · intro v h0 hn
    have hne : v ≠ s.top := fun e => hn (by rw [e]; exact t3)
    rw [sc', up_other _ _ hne]
    exact P.scfin v h0 hn
  · intro v q hv h1 h2
    rcases lt v q h2 with h | ⟨rfl, rfl⟩
    · exact P.scvis v q hv h1 h
    · rw [hBn]; exact hb0
  · intro v q hv h1 h2
    rcases lt v q h2 with h | ⟨rfl, rfl⟩
    · exact seenof _ (P.scseen v q hv h1 h)
    · rw [hE]; exact seene
  · intro x u v hx huv
    rcases seen' x hx with h | rfl
    · exact P.seenends x u v h huv
    · rcases ok.two _ _ _ _ _ i1 huv with ⟨rfl, _⟩ | ⟨rfl, _⟩
      · exact t2
      · exact hb0
  · intro x u v hx huv hlt
    rcases seen' x hx with h | rfl
    · rcases P.deep x u v h huv hlt with h | ⟨q, q1, q2, q3⟩
      · exact .inl h
      · exact .inr ⟨q, q1, ge _ _ q2, q3⟩
    · rcases ok.two _ _ _ _ _ i1 huv with ⟨rfl, rfl⟩ | ⟨rfl, rfl⟩
      · have hlt' : s.idx s.top < s.idx v := hlt
        omega
      · refine .inr ⟨s.sc s.top, bd.1, ?_, hE⟩
        rw [sc', up_same]; omega
  · intro j hj
    have hj' : j < s.m := hj
    by_cases hjt : j = s.m - 1
    · obtain ⟨c, c1, c2, c3⟩ := L.wit j hj'
      have hnd : s.nd j = s.top := by rw [hjt]; rfl
      rw [hnd] at c2 c3
      have goal : (s.back e (s.idx b)).low (s.nd j) = min (s.low s.top) (s.idx b) := by rw [low', hnd, up_same]
      rcases Nat.le_total (s.low s.top) (s.idx b) with hle | hle
      · refine ⟨c, c1, ?_, ?_⟩
        · exact goal.trans ((Nat.min_eq_left hle).trans c2)
        · show ∀ b, c < b → b ≤ j → g.Eqv (s.te (s.nd b)) (s.te (s.nd j))
          rw [hnd]; exact c3
      · refine ⟨a, by omega, ?_, ?_⟩
        · exact goal.trans ((Nat.min_eq_right hle).trans (by rw [← hea]; rfl))
        · show ∀ b, a < b → b ≤ j → g.Eqv (s.te (s.nd b)) (s.te (s.nd j))
          intro d d1 d2
          rw [hnd]
          exact (rg d d1 (by omega)).1
    · obtain ⟨c, c1, c2, c3⟩ := L.wit j hj'
      have hne : s.nd j ≠ s.top := fun e => hjt (topj j hj' e)
      refine ⟨c, c1, ?_, c3⟩
      rw [low']
      show up s.low s.top _ (s.nd j) = _
      rw [up_other _ _ hne]
      exact c2
  · intro j hj u q hu h1 h2 h3 h4 h5 h6
    have hj' : j < s.m := hj
    rcases lt u q h4 with h | ⟨rfl, rfl⟩
    · exact Nat.le_trans (lowle _) (L.lowL j hj' u q hu h1 h2 h3 h h5 h6)
    · have hjm : j = s.m - 1 := by
        rcases Nat.lt_or_ge (j + 1) s.m with hlt | hge
        · have a1 : s.idx s.top < s.idx (s.nd (j + 1)) := h2 hlt
          have a2 : s.idx (s.nd (j + 1)) ≤ s.idx s.top := by
            rcases Nat.lt_or_ge (j + 1) (s.m - 1) with g1 | g1
            · exact Nat.le_of_lt (P.ndidx _ _ g1 (by omega))
            · unfold HS.top; rw [show j + 1 = s.m - 1 by omega]; omega
          omega
        · omega
      have hnd : s.nd j = s.top := by rw [hjm]; rfl
      show (s.back e (s.idx b)).low (s.nd j) ≤ s.idx (g.eN (s.sc s.top))
      rw [low', hnd, up_same, hBn]
      omega
  · intro j hj
    have := M.posle j hj
    show s.pos j ≤ s.k + 1
    omega
  · intro h1
    have h1' : s.m = 1 := h1
    omega
  · intro j hj hj'
    obtain ⟨p1, p2⟩ := M.poste j hj hj'
    refine ⟨show s.pos j < s.k + 1 by omega, ?_⟩
    show (s.back e (s.idx b)).met (s.pos j) = s.te (s.nd j)
    rw [met' _ p1]; exact p2
  · intro j i hj hj' hi hi' hseg
    have hi2 : i < s.k + 1 := hi'
    by_cases hk : i = s.k
    · subst hk
      have hjm : j = s.m - 1 := by
        rcases Nat.lt_or_ge (j + 1) s.m with hlt | hge
        · have a1 : s.k < s.pos (j + 1) := hseg hlt
          have := M.posle (j + 1) hlt
          omega
        · have : j < s.m := hj'
          omega
      rw [metk]
      show g.Eqv e (s.te (s.nd j))
      rw [hjm]
      exact (rg (s.m - 1) ha (Nat.le_refl _)).2
    · rw [met' _ (by omega)]
      exact M.seg j i hj hj' hi (by omega) hseg
  · intro j i u v hj hi huv
    have hi2 : i < s.pos j := hi
    have := M.posle j hj
    rw [met' _ (by omega)] at huv
    exact M.below j i u v hj hi huv
  · intro i hi
    have hi2 : i < s.k + 1 := hi
    by_cases hk : i = s.k
    · subst hk; rw [metk]; exact ⟨_, _, i1⟩
    · rw [met' _ (by omega)]; exact M.metex i (by omega)
  · intro i i' hi hi' hx
    have hi2 : i < s.k + 1 := hi
    have hi2' : i' < s.k + 1 := hi'
    by_cases hk : i = s.k
    · by_cases hk' : i' = s.k
      · omega
      · rw [hk, metk, met' _ (by omega)] at hx
        exact absurd hx.symm (nmet i' (by omega))
    · by_cases hk' : i' = s.k
      · rw [hk', metk, met' _ (by omega)] at hx
        exact absurd hx (nmet i (by omega))
      · rw [met' _ (by omega), met' _ (by omega)] at hx
        exact M.metinj i i' (by omega) (by omega) hx
  · intro i hi
    have hi2 : i < s.k + 1 := hi
    by_cases hk : i = s.k
    · subst hk; rw [metk]
      show s.blk e = 0
      apply Classical.byContradiction
      intro hx
      exact hns (.inr hx)
    · rw [met' _ (by omega)]; exact M.metblk i (by omega)
  · intro j i hj hj' hi hi'
    have hi2 : i < s.k + 1 := hi'
    have hj2 : j < s.m := hj'
    by_cases hk : i = s.k
    · rw [hk, metk]
      refine ⟨s.top, b, i1, ?_⟩
      show s.idx (s.nd j) ≤ s.idx (s.nd (s.m - 1))
      rcases Nat.lt_or_ge j (s.m - 1) with hlt | hge
      · exact Nat.le_of_lt (P.ndidx _ _ hlt (by omega))
      · rw [show j = s.m - 1 by omega]; omega
    · rw [met' _ (by omega)]; exact M.above j i hj hj' hi (by omega)
end
end Go.Proofs.Qxb6602148a
