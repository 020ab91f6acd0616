/-
  PLAIN: the search leaves the top node: its edges stay with its parent's, or make a block.
-/
import Derived.Test.Qxb6602148aHTb
namespace Go.Proofs.Qxb6602148a
set_option linter.unusedVariables false

section
variable {g : UG} {s : HS}

/-- The parent of the top. -/
def HS.par (s : HS) : Nat := s.nd (s.m - 2)

/-- What the two ways of leaving the top have in common: the path. -/
theorem HInv.leaveP (ok : g.Ok) (h : HInv g s) (hm : 2 ≤ s.m) (hq : s.sc s.top = g.st (s.top + 1)) (s' : HS) (e1 : s'.m = s.m - 1) (e2 : s'.nd = s.nd) (e3 : s'.te = s.te) (e4 : s'.sc = s.sc) (e5 : s'.idx = s.idx) (e6 : s'.vis = s.vis)
    (e7 : s'.hi = up s.hi s.top s.vis) (e8 : ∀ x, s'.seen x ↔ s.seen x) : InvP g s' := by
  obtain ⟨t1, t2, t3⟩ := h.topidx
  have bd := h.P.scbd s.top t1
  obtain ⟨P, L, M, B⟩ := h
  have on' : ∀ v, ¬ s'.on v → v = s.top ∨ ¬ s.on v := by
    intro v hn
    by_cases hv : v = s.top
    · exact .inl hv
    · refine .inr fun ⟨j, hj, ej⟩ => hn ⟨j, ?_, by rw [e2]; exact ej⟩
      rw [e1]
      rcases Nat.lt_or_ge j (s.m - 1) with hlt | hge
      · exact hlt
      · exact absurd (by rw [← ej]; unfold HS.top; rw [show j = s.m - 1 by omega]) hv
  refine ⟨by rw [e1]; omega, ?_, ?_, by rw [e2, e5]; exact P.root, by rw [e5, e6]; exact P.idxle, by rw [e5]; exact P.idxlt, by rw [e5]; exact P.idxinj, ?_, by rw [e4, e5]; exact P.scun, by rw [e4]; exact P.scbd, ?_, by rw [e4, e5]; exact P.scvis, ?_, ?_, ?_, ?_, ?_, ?_⟩
  · intro j hj; rw [e1] at hj; rw [e2]; exact P.ndlt j (by omega)
  · intro i j hij hj; rw [e1] at hj; rw [e2, e5]; exact P.ndidx i j hij (by omega)
  · intro j hj; rw [e1] at hj; rw [e2, e3]; exact P.tree j (by omega)
  · intro v h0 hn
    rw [e5] at h0
    rw [e4]
    rcases on' v hn with rfl | hn'
    · exact hq
    · exact P.scfin v h0 hn'
  · intro v q hv h1 h2
    rw [e4] at h2
    exact (e8 _).2 (P.scseen v q hv h1 h2)
  · intro x a b hx hab
    rw [e5]
    exact P.seenends x a b ((e8 _).1 hx) hab
  · intro x a b hx hab hlt
    rw [e5] at hlt
    rw [e3, e4]
    exact P.deep x a b ((e8 _).1 hx) hab hlt
  · intro c q h0 hn h1 h2
    rw [e5] at h0
    rw [e5, e7]
    by_cases hc : c = s.top
    · subst hc; rw [up_same]; exact P.idxle _
    · rw [up_other _ _ hc]
      rcases on' c hn with h | hn'
      · exact absurd h hc
      · exact P.hinb c q h0 hn' h1 h2
  · intro c h0 hn
    rw [e5] at h0
    rw [e6, e7]
    by_cases hc : c = s.top
    · subst hc; rw [up_same]; omega
    · rw [up_other _ _ hc]
      rcases on' c hn with h | hn'
      · exact absurd h hc
      · exact P.hile c h0 hn'
  · intro c j h0 hn hj
    rw [e5] at h0
    rw [e1] at hj
    rw [e2, e5, e7]
    by_cases hc : c = s.top
    · subst hc
      left
      exact P.ndidx j (s.m - 1) hj (by omega)
    · rw [up_other _ _ hc]
      rcases on' c hn with h | hn'
      · exact absurd h hc
      · exact P.hipath c j h0 hn' (by omega)

/-- Where low of the top lies below its parent, their edges belong together. -/
theorem HInv.low_under (ok : g.Ok) (h : HInv g s) (hm : 2 ≤ s.m) (hl : s.low s.top < s.idx s.par) : 3 ≤ s.m ∧ g.Eqv (s.te s.top) (s.te s.par) ∧ ∃ c, c < s.m - 2 ∧ s.low s.top = s.idx (s.nd c) ∧ ∀ b, c < b → b ≤ s.m - 1 → g.Eqv (s.te (s.nd b)) (s.te s.top) := by
  obtain ⟨c, c1, c2, c3⟩ := h.L.wit (s.m - 1) (by omega)
  have c2' : s.low s.top = s.idx (s.nd c) := c2
  have hc : c < s.m - 2 := by
    rcases Nat.lt_or_ge c (s.m - 2) with hlt | hge
    · exact hlt
    · have := h.nd_le hge (show c < s.m by omega)
      unfold HS.par at hl
      omega
  refine ⟨by omega, ok.eqv_symm (c3 (s.m - 2) hc (by omega)), c, hc, c2', c3⟩

theorem HInv.tree_ex (ok : g.Ok) (h : HInv g s) {j : Nat} (hj : 1 ≤ j) (hj' : j < s.m) : ∃ a b, g.inc a (s.te (s.nd j)) b := by
  have := h.P.tree (j - 1) (by omega)
  rw [show j - 1 + 1 = j by omega] at this
  exact ⟨_, _, this⟩

/-- What the two ways have in common: low. -/
theorem HInv.leaveL (ok : g.Ok) (h : HInv g s) (hm : 2 ≤ s.m) (hq : s.sc s.top = g.st (s.top + 1)) (s' : HS) (e1 : s'.m = s.m - 1) (e2 : s'.nd = s.nd) (e3 : s'.te = s.te) (e4 : s'.sc = s.sc) (e5 : s'.idx = s.idx)
    (e6 : s'.low = up s.low s.par (min (s.low s.par) (s.low s.top))) : InvL g s' := by
  have tr := h.P.tree (s.m - 2) (by omega)
  rw [show s.m - 2 + 1 = s.m - 1 by omega] at tr
  have lowle : ∀ v, s'.low v ≤ s.low v := by
    intro v
    rw [e6]
    by_cases hv : v = s.par
    · subst hv; rw [up_same]; omega
    · rw [up_other _ _ hv]; omega
  have lowp : s'.low s.par = min (s.low s.par) (s.low s.top) := by rw [e6, up_same]
  have lowo : ∀ j, j < s.m - 2 → s'.low (s.nd j) = s.low (s.nd j) := by
    intro j hj
    rw [e6, up_other]
    intro e
    have := h.nd_inj (show j < s.m by omega) (show s.m - 2 < s.m by omega) e
    omega
  constructor
  · intro j hj
    rw [e1] at hj
    rw [e2, e3, e5]
    by_cases hjm : j = s.m - 2
    · obtain ⟨c, c1, c2, c3⟩ := h.L.wit (s.m - 2) (by omega)
      have c2' : s.low s.par = s.idx (s.nd c) := c2
      subst hjm
      have hlp : s'.low (s.nd (s.m - 2)) = min (s.low s.par) (s.low s.top) := lowp
      rcases Nat.le_total (s.low s.par) (s.low s.top) with hle | hle
      · exact ⟨c, c1, by rw [hlp, Nat.min_eq_left hle]; exact c2', c3⟩
      · rcases Nat.lt_or_ge (s.low s.top) (s.idx s.par) with hlt | hge
        · obtain ⟨_, he, d, d1, d2, d3⟩ := h.low_under ok hm hlt
          refine ⟨d, by omega, by rw [hlp, Nat.min_eq_right hle]; exact d2, ?_⟩
          intro b b1 b2
          exact ok.eqv_trans (h.tree_ex ok (show 1 ≤ s.m - 1 by omega) (by omega)) (d3 b b1 (by omega)) he
        · have hcp := h.nd_le c1 (show s.m - 2 < s.m by omega)
          have hpar : s.idx (s.nd (s.m - 2)) = s.idx s.par := rfl
          refine ⟨c, c1, ?_, c3⟩
          rw [hlp, Nat.min_eq_left (by omega)]
          exact c2'
    · obtain ⟨c, c1, c2, c3⟩ := h.L.wit j (by omega)
      exact ⟨c, c1, by rw [lowo j (by omega)]; exact c2, c3⟩
  · intro j hj a q ha h1 h2 h3 h4 h5 h6
    rw [e1] at hj
    rw [e2, e5] at h1 h5
    rw [e4] at h4
    rw [e2, e3] at h6
    rw [e2, e5]
    by_cases hjm : j = s.m - 2
    · subst hjm
      rcases Nat.lt_or_ge (s.idx a) (s.idx s.top) with hlt | hge
      · refine Nat.le_trans (lowle _) (h.L.lowL (s.m - 2) (by omega) a q ha h1 (fun _ => ?_) h3 h4 h5 h6)
        rw [show s.m - 2 + 1 = s.m - 1 by omega]
        exact hlt
      · have hpt : s.idx (s.nd (s.m - 2)) < s.idx s.top := h.P.ndidx (s.m - 2) (s.m - 1) (by omega) (by omega)
        by_cases he : g.eE q = s.te s.top
        · have hqb : q < g.st (a + 1) := by have := (h.P.scbd a ha).2; omega
          have hi := UG.inc_at ha h3 hqb
          rw [he] at hi
          rcases ok.two _ _ _ _ _ tr hi with ⟨_, e⟩ | ⟨_, e⟩
          · rw [e] at h5
            have : s.idx (s.nd (s.m - 1)) = s.idx s.top := rfl
            omega
          · rw [e] at h5; omega
        · have hl := h.L.lowL (s.m - 1) (by omega) a q ha hge (fun hh => by omega) h3 h4 (show s.idx (g.eN q) < s.idx s.top by omega) he
          have hl' : s.low s.top ≤ s.idx (g.eN q) := hl
          have : s'.low (s.nd (s.m - 2)) = min (s.low s.par) (s.low s.top) := lowp
          rw [this]
          omega
    · rw [lowo j (by omega)]
      refine h.L.lowL j (by omega) a q ha h1 (fun hj1 => ?_) h3 h4 h5 h6
      have := h2 (by rw [e1]; omega)
      rw [e2, e5] at this
      exact this

/-- THE TOP IS LEFT; its edges stay. -/
def HS.stay (s : HS) : HS := { s with m := s.m - 1, low := up s.low s.par (min (s.low s.par) (s.low s.top)), hi := up s.hi s.top s.vis }

theorem HInv.stay (ok : g.Ok) (h : HInv g s) (hm : 2 ≤ s.m) (hq : s.sc s.top = g.st (s.top + 1)) (hl : s.low s.top < s.idx s.par) : HInv g s.stay := by
  obtain ⟨m3, heq, _⟩ := h.low_under ok hm hl
  have hmm : s.stay.m = s.m - 1 := rfl
  refine ⟨h.leaveP ok hm hq s.stay rfl rfl rfl rfl rfl rfl rfl (fun _ => Iff.rfl), h.leaveL ok hm hq s.stay rfl rfl rfl rfl rfl rfl, ?_, ⟨h.B.blkle, h.B.b1, h.B.bout, h.B.b2, h.B.b3, h.B.b4⟩⟩
  obtain ⟨P, L, M, B⟩ := id h
  refine ⟨fun j hj => M.posle j (by rw [hmm] at hj; omega), fun i j hij hj => M.posmono i j hij (by rw [hmm] at hj; omega), fun _ => M.pos1 hm, fun h1 => by rw [hmm] at h1; omega, fun j h1 h2 => M.poste j h1 (by rw [hmm] at h2; omega), ?_, fun j i a b hj => M.below j i a b (by rw [hmm] at hj; omega), M.metex, M.metinj, M.metblk, fun j i h1 h2 => M.above j i h1 (by rw [hmm] at h2; omega)⟩
  intro j i hj hj' hi hi' hseg
  rw [hmm] at hj'
  have hi1 : s.pos j ≤ i := hi
  have hi2 : i < s.k := hi'
  show g.Eqv (s.met i) (s.te (s.nd j))
  by_cases hjm : j = s.m - 2
  · subst hjm
    rcases Nat.lt_or_ge i (s.pos (s.m - 1)) with hlt | hge
    · refine M.seg _ i hj (by omega) hi1 hi2 (fun _ => ?_)
      rw [show s.m - 2 + 1 = s.m - 1 by omega]; exact hlt
    · have h1 := M.seg (s.m - 1) i (by omega) (by omega) hge hi2 (fun hh => by omega)
      exact ok.eqv_trans (h.tree_ex ok (show 1 ≤ s.m - 1 by omega) (by omega)) h1 heq
  · refine M.seg j i hj (by omega) hi1 hi2 (fun hj1 => ?_)
    have := hseg (by rw [hmm]; omega)
    exact this

/-- THE TOP IS LEFT; the edges met since it was come to make a block: 'bk' is the blocks' numbering behind it. -/
def HS.cut (s : HS) (bk : Nat → Nat) : HS :=
  { s with m := s.m - 1, low := up s.low s.par (min (s.low s.par) (s.low s.top)), hi := up s.hi s.top s.vis, k := s.pos (s.m - 1), nb := s.nb + 1, blk := bk,
           bu := up s.bu (s.nb + 1) (s.idx s.top), bh := up s.bh (s.nb + 1) s.vis, bp := up s.bp (s.nb + 1) s.par, bt := up s.bt (s.nb + 1) (s.te s.top) }

theorem HInv.cut (ok : g.Ok) (h : HInv g s) (hm : 2 ≤ s.m) (hq : s.sc s.top = g.st (s.top + 1)) (hl : s.idx s.par ≤ s.low s.top) (bk : Nat → Nat)
    (hin : ∀ i, s.pos (s.m - 1) ≤ i → i < s.k → bk (s.met i) = s.nb + 1) (hout : ∀ x, (∀ i, s.pos (s.m - 1) ≤ i → i < s.k → s.met i ≠ x) → bk x = s.blk x) : HInv g (s.cut bk) := by
  obtain ⟨t1, t2, t3⟩ := h.topidx
  obtain ⟨P, L, M, B⟩ := id h
  have hmm : (s.cut bk).m = s.m - 1 := rfl
  have posm := M.posle (s.m - 1) (by omega)
  have tr := P.tree (s.m - 2) (by omega)
  rw [show s.m - 2 + 1 = s.m - 1 by omega] at tr
  have painted : ∀ x, (∃ i, s.pos (s.m - 1) ≤ i ∧ i < s.k ∧ s.met i = x) ∨ bk x = s.blk x := by
    intro x
    by_cases hx : ∃ i, s.pos (s.m - 1) ≤ i ∧ i < s.k ∧ s.met i = x
    · exact .inl hx
    · exact .inr (hout x (fun i i1 i2 i3 => hx ⟨i, i1, i2, i3⟩))
  have keep : ∀ x, s.blk x ≠ 0 → bk x = s.blk x := by
    intro x hx
    refine hout x (fun i i1 i2 i3 => ?_)
    have := M.metblk i i2
    rw [i3] at this
    exact hx this
  have seen' : ∀ x, (s.cut bk).seen x ↔ s.seen x := by
    intro x
    constructor
    · rintro (⟨i, hi, hx⟩ | hx)
      · have hi' : i < s.pos (s.m - 1) := hi
        exact .inl ⟨i, by omega, hx⟩
      · have hx' : bk x ≠ 0 := hx
        rcases painted x with ⟨i, i1, i2, i3⟩ | h
        · exact .inl ⟨i, i2, i3⟩
        · exact .inr (by rw [← h]; exact hx')
    · rintro (⟨i, hi, hx⟩ | hx)
      · rcases Nat.lt_or_ge i (s.pos (s.m - 1)) with hlt | hge
        · exact .inl ⟨i, hlt, hx⟩
        · refine .inr ?_
          show bk x ≠ 0
          rw [← hx, hin i hge hi]; omega
      · refine .inr ?_
        show bk x ≠ 0
        rw [keep x hx]; exact hx
  have hpi : s.idx s.par < s.idx s.top := P.ndidx (s.m - 2) (s.m - 1) (by omega) (by omega)
  have hpn : s.idx s.par ≠ 0 := by have := h.nd_pos (show s.m - 2 < s.m by omega); unfold HS.par; omega
  -- every entry of a node visited since the top has been looked at
  have full : ∀ a, s.idx s.top ≤ s.idx a → s.sc a = g.st (a + 1) ∧ a < g.N := by
    intro a ha
    have ha0 : s.idx a ≠ 0 := by omega
    refine ⟨?_, P.idxlt a ha0⟩
    by_cases hat : a = s.top
    · rw [hat]; exact hq
    · refine P.scfin a ha0 (fun ⟨j, hj, ej⟩ => ?_)
      have hle : s.idx (s.nd j) ≤ s.idx s.top := h.nd_le (show j ≤ s.m - 1 by omega) (by omega)
      rw [ej] at hle
      exact hat (P.idxinj a s.top ha0 (by omega))
  have newB1 : ∀ a e b, g.inc a e b → s.idx s.top ≤ s.idx a → b = s.par ∨ (s.idx s.top ≤ s.idx b ∧ s.idx b ≤ s.vis) := by
    intro a e b hab ha
    obtain ⟨f1, f2⟩ := full a ha
    obtain ⟨_, q, q1, q2, q3, q4⟩ := id hab
    have hbv := P.scvis a q f2 q1 (by omega)
    rw [q3] at hbv
    rcases Nat.lt_or_ge (s.idx b) (s.idx s.top) with hlt | hge
    · left
      by_cases he : e = s.te s.top
      · rw [he] at hab
        rcases ok.two _ _ _ _ _ tr hab with ⟨_, hb⟩ | ⟨_, hb⟩
        · rw [hb] at hlt
          have : s.idx (s.nd (s.m - 1)) = s.idx s.top := rfl
          omega
        · exact hb
      · have hlow := L.lowL (s.m - 1) (by omega) a q f2 ha (fun hh => by omega) q1 (by omega) (by rw [q3]; exact hlt) (by rw [q4]; exact he)
        rw [q3] at hlow
        have hlow' : s.low s.top ≤ s.idx b := hlow
        have hon : s.on b := by
          apply Classical.byContradiction
          intro hn
          obtain ⟨_, q', g1, g2, g3, g4⟩ := ok.symm _ _ _ hab
          have k1 := P.hinb b q' hbv hn g1 g2
          rw [g3] at k1
          rcases P.hipath b (s.m - 1) hbv hn (by omega) with k2 | k2
          · have : s.idx s.top < s.idx b := k2
            omega
          · have : s.hi b < s.idx s.top := k2
            omega
        obtain ⟨j, hj, ej⟩ := hon
        have hj1 : j = s.m - 2 := by
          rcases Nat.lt_trichotomy j (s.m - 2) with c | c | c
          · have hlt2 : s.idx (s.nd j) < s.idx s.par := P.ndidx j (s.m - 2) c (by omega)
            rw [ej] at hlt2
            omega
          · exact c
          · have : s.nd j = s.top := by unfold HS.top; rw [show j = s.m - 1 by omega]
            rw [this] at ej
            rw [← ej] at hlt
            omega
        rw [← ej, hj1]; rfl
    · exact .inr ⟨hge, P.idxle b⟩
  have newB3 : ∀ a e b, g.inc a e b → s.idx s.top ≤ s.idx a → 1 ≤ bk e ∧ bk e ≤ s.nb + 1 := by
    intro a e b hab ha
    obtain ⟨f1, f2⟩ := full a ha
    obtain ⟨_, q, q1, q2, q3, q4⟩ := id hab
    have hse := P.scseen a q f2 q1 (by omega)
    rw [q4] at hse
    rcases hse with ⟨i, hi, hx⟩ | hx
    · have hge : s.pos (s.m - 1) ≤ i := by
        rcases Nat.lt_or_ge i (s.pos (s.m - 1)) with hlt | hge
        · have := M.below (s.m - 1) i a b (by omega) hlt (by rw [hx]; exact hab)
          have h2 : s.idx a < s.idx s.top := this
          omega
        · exact hge
      rw [← hx, hin i hge hi]; omega
    · rw [keep e hx]
      have := B.blkle e
      omega
  have ubu : ∀ β, β ≤ s.nb → (s.cut bk).bu β = s.bu β ∧ (s.cut bk).bh β = s.bh β ∧ (s.cut bk).bp β = s.bp β ∧ (s.cut bk).bt β = s.bt β :=
    fun β hβ => ⟨up_other _ _ (by omega), up_other _ _ (by omega), up_other _ _ (by omega), up_other _ _ (by omega)⟩
  have nbu : (s.cut bk).bu (s.nb + 1) = s.idx s.top ∧ (s.cut bk).bh (s.nb + 1) = s.vis ∧ (s.cut bk).bp (s.nb + 1) = s.par ∧ (s.cut bk).bt (s.nb + 1) = s.te s.top :=
    ⟨up_same _ _ _, up_same _ _ _, up_same _ _ _, up_same _ _ _⟩
  have nbn : (s.cut bk).nb = s.nb + 1 := rfl
  have blkn : ∀ x, (s.cut bk).blk x = bk x := fun _ => rfl
  have idxn : ∀ x, (s.cut bk).idx x = s.idx x := fun _ => rfl
  refine ⟨h.leaveP ok hm hq (s.cut bk) rfl rfl rfl rfl rfl rfl rfl seen', h.leaveL ok hm hq (s.cut bk) rfl rfl rfl rfl rfl rfl, ?_, ?_⟩
  · refine ⟨fun j hj => M.posmono j (s.m - 1) (by rw [hmm] at hj; omega) (by omega), fun i j hij hj => M.posmono i j hij (by rw [hmm] at hj; omega), fun _ => M.pos1 hm, ?_, ?_, ?_, fun j i a b hj => M.below j i a b (by rw [hmm] at hj; omega), ?_, ?_, ?_, ?_⟩
    · intro h1
      rw [hmm] at h1
      have := M.pos1 hm
      show s.pos (s.m - 1) = 0
      rw [h1]; exact this
    · intro j h1 h2
      rw [hmm] at h2
      obtain ⟨p1, p2⟩ := M.poste j h1 (by omega)
      refine ⟨?_, p2⟩
      show s.pos j < s.pos (s.m - 1)
      have hle := M.posmono j (s.m - 1) (by omega) (by omega)
      rcases Nat.lt_or_ge (s.pos j) (s.pos (s.m - 1)) with hlt | hge
      · exact hlt
      · exfalso
        obtain ⟨_, p4⟩ := M.poste (s.m - 1) (by omega) (by omega)
        rw [show s.pos (s.m - 1) = s.pos j by omega, p2] at p4
        have tj := P.tree (j - 1) (by omega)
        rw [show j - 1 + 1 = j by omega, p4] at tj
        rcases ok.two _ _ _ _ _ tr tj with ⟨_, hb⟩ | ⟨ha, _⟩
        · have := h.nd_inj (by omega) (by omega) hb
          omega
        · have := h.nd_inj (by omega) (by omega) ha
          omega
    · intro j i hj hj' hi hi' hseg
      rw [hmm] at hj'
      have hi2 : i < s.pos (s.m - 1) := hi'
      refine M.seg j i hj (by omega) hi (by omega) (fun hj1 => ?_)
      by_cases hjm : j + 1 = s.m - 1
      · rw [hjm]; exact hi2
      · exact hseg (by rw [hmm]; omega)
    · intro i hi
      have hi2 : i < s.pos (s.m - 1) := hi
      exact M.metex i (by omega)
    · intro i i' hi hi' hx
      have hi2 : i < s.pos (s.m - 1) := hi
      have hi3 : i' < s.pos (s.m - 1) := hi'
      exact M.metinj i i' (by omega) (by omega) hx
    · intro i hi
      have hi2 : i < s.pos (s.m - 1) := hi
      show bk (s.met i) = 0
      rw [hout (s.met i) (fun i' i1 i2 i3 => by have := M.metinj i' i i2 (by omega) i3; omega)]
      exact M.metblk i (by omega)
    · intro j i h1 h2 h3 h4
      rw [hmm] at h2
      have h5 : i < s.pos (s.m - 1) := h4
      exact M.above j i h1 (by omega) h3 (by omega)
  · refine ⟨?_, ?_, ?_, ?_, ?_, ?_⟩
    · intro x
      rw [blkn, nbn]
      rcases painted x with ⟨i, i1, i2, i3⟩ | hx
      · rw [← i3, hin i i1 i2]; omega
      · rw [hx]; have := B.blkle x; omega
    · intro β h1 h2 a e b hab h3 h4
      rw [nbn] at h2
      by_cases hβ : β = s.nb + 1
      · subst hβ
        rw [nbu.1, idxn] at h3
        rw [nbu.2.2.1, nbu.1, nbu.2.1, idxn]
        exact newB1 a e b hab h3
      · obtain ⟨u1, u2, u3, u4⟩ := ubu β (by omega)
        rw [u1, idxn] at h3
        rw [u2, idxn] at h4
        rw [u1, u2, u3, idxn]
        exact B.b1 β h1 (by omega) a e b hab h3 h4
    · intro β h1 h2
      rw [nbn] at h2
      by_cases hβ : β = s.nb + 1
      · subst hβ
        rw [nbu.1, nbu.2.1, nbu.2.2.1, idxn]
        exact ⟨by omega, Nat.le_refl _, hpi, hpn⟩
      · obtain ⟨u1, u2, u3, u4⟩ := ubu β (by omega)
        rw [u1, u2, u3, idxn]
        exact B.bout β h1 (by omega)
    · intro x hx
      rw [blkn] at hx ⊢
      rcases painted x with ⟨i, i1, i2, i3⟩ | he
      · obtain ⟨a, b, h1, h2⟩ := M.above (s.m - 1) i (by omega) (by omega) i1 i2
        have hb : bk x = s.nb + 1 := by rw [← i3]; exact hin i i1 i2
        refine ⟨a, b, by rw [← i3]; exact h1, ?_, ?_⟩
        · rw [hb, nbu.1, idxn]; exact h2
        · rw [hb, nbu.2.1, idxn]; exact P.idxle a
      · rw [he] at hx ⊢
        obtain ⟨a, b, h1, h2, h3⟩ := B.b2 x hx
        obtain ⟨u1, u2, u3, u4⟩ := ubu (s.blk x) (B.blkle x)
        exact ⟨a, b, h1, by rw [u1, idxn]; exact h2, by rw [u2, idxn]; exact h3⟩
    · intro β h1 h2 a e b hab h3 h4
      rw [nbn] at h2
      rw [blkn]
      by_cases hβ : β = s.nb + 1
      · subst hβ
        rw [nbu.1, idxn] at h3
        exact newB3 a e b hab h3
      · obtain ⟨u1, u2, u3, u4⟩ := ubu β (by omega)
        rw [u1, idxn] at h3
        rw [u2, idxn] at h4
        have := B.b3 β h1 (by omega) a e b hab h3 h4
        rw [keep e (by omega)]
        exact this
    · intro x hx
      rw [blkn] at hx ⊢
      rcases painted x with ⟨i, i1, i2, i3⟩ | he
      · have hb : bk x = s.nb + 1 := by rw [← i3]; exact hin i i1 i2
        rw [hb, nbu.2.2.2, ← i3]
        exact ⟨M.seg (s.m - 1) i (by omega) (by omega) i1 i2 (fun hh => by omega), _, _, tr⟩
      · rw [he] at hx ⊢
        obtain ⟨u1, u2, u3, u4⟩ := ubu (s.blk x) (B.blkle x)
        rw [u4]
        exact B.b4 x hx

/-- THE START: at node 0. -/
def HS.init (g : UG) : HS :=
  { m := 1, nd := fun _ => 0, te := fun _ => 0, sc := g.st, idx := up (fun _ => 0) 0 1, low := up (fun _ => 0) 0 1, vis := 1, k := 0, met := fun _ => 0, pos := fun _ => 0, blk := fun _ => 0, nb := 0,
    hi := fun _ => 0, bu := fun _ => 0, bh := fun _ => 0, bp := fun _ => 0, bt := fun _ => 0 }

theorem HInv.init (ok : g.Ok) (hN : 0 < g.N) : HInv g (HS.init g) := by
  have i0 : (HS.init g).idx 0 = 1 := by
    show up (fun _ => 0) 0 1 0 = 1
    exact up_same _ _ _
  have io : ∀ v, v ≠ 0 → (HS.init g).idx v = 0 := by
    intro v hv
    show up (fun _ => 0) 0 1 v = 0
    exact up_other _ _ hv
  have hm : (HS.init g).m = 1 := rfl
  have hsc : ∀ v, (HS.init g).sc v = g.st v := fun _ => rfl
  have hnd : ∀ j, (HS.init g).nd j = 0 := fun _ => rfl
  have nseen : ∀ x, ¬ (HS.init g).seen x := by
    rintro x (⟨i, hi, _⟩ | hx)
    · have : i < 0 := hi
      omega
    · exact hx rfl
  have fin : ∀ v, (HS.init g).idx v ≠ 0 → ¬ (HS.init g).on v → False := by
    intro v h0 hn
    by_cases hv : v = 0
    · exact hn ⟨0, by rw [hm]; omega, by rw [hv]; rfl⟩
    · exact h0 (io v hv)
  refine ⟨⟨Nat.le_refl _, fun _ _ => hN, ?_, i0, ?_, ?_, ?_, ?_, fun _ _ _ => rfl, fun v hv => ⟨Nat.le_refl _, ok.mono v⟩, fun v h0 hn => (fin v h0 hn).elim, ?_, ?_, fun x _ _ hx => (nseen x hx).elim, fun x _ _ hx => (nseen x hx).elim, fun v _ h0 hn => (fin v h0 hn).elim, fun v h0 hn => (fin v h0 hn).elim, fun v _ h0 hn => (fin v h0 hn).elim⟩, ⟨?_, ?_⟩, ⟨fun _ _ => Nat.le_refl _, fun _ _ _ _ => Nat.le_refl _, fun _ => rfl, fun _ => rfl, ?_, ?_, ?_, ?_, ?_, ?_, ?_⟩, ⟨fun _ => Nat.le_refl _, ?_, ?_, ?_, ?_, ?_⟩⟩
  · intro i j hij hj; rw [hm] at hj; omega
  · intro v
    show (HS.init g).idx v ≤ 1
    by_cases hv : v = 0
    · rw [hv, i0]; omega
    · rw [io v hv]; omega
  · intro v h0
    by_cases hv : v = 0
    · rw [hv]; exact hN
    · exact absurd (io v hv) h0
  · intro v v' h0 he
    by_cases hv : v = 0
    · by_cases hv' : v' = 0
      · omega
      · rw [hv, i0, io v' hv'] at he; omega
    · exact absurd (io v hv) h0
  · intro j hj; rw [hm] at hj; omega
  · intro v q _ h1 h2; rw [hsc] at h2; omega
  · intro v q _ h1 h2; rw [hsc] at h2; omega
  · intro j hj
    rw [hm] at hj
    exact ⟨j, Nat.le_refl _, rfl, fun b b1 b2 => by omega⟩
  · intro j hj a q _ _ _ h3 h4; rw [hsc] at h4; omega
  · intro j h1 h2; rw [hm] at h2; omega
  · intro j i h1 h2; rw [hm] at h2; omega
  · intro j i a b _ hi
    have : i < 0 := hi
    omega
  · intro i hi
    have : i < 0 := hi
    omega
  · intro i i' hi
    have : i < 0 := hi
    omega
  · intro i hi
    have : i < 0 := hi
    omega
  · intro j i h1 h2; rw [hm] at h2; omega
  · intro β h1 h2
    have : β ≤ 0 := h2
    omega
  · intro β h1 h2
    have : β ≤ 0 := h2
    omega
  · intro x h1
    have : 1 ≤ 0 := h1
    omega
  · intro β h1 h2
    have : β ≤ 0 := h2
    omega
  · intro x h1
    have : 1 ≤ 0 := h1
    omega

/-- THE END: at the root, all its entries looked at: every edge of a graph that hangs together lies in a block, and two edges lie in one block exactly where no node parts them. -/
theorem HInv.done (ok : g.Ok) (h : HInv g s) (hm : s.m = 1) (hq : s.sc s.top = g.st (s.top + 1)) (hc : ∀ v, v < g.N → Rch (fun a b => ∃ e, g.inc a e b) s.top v) :
    (∀ v, v < g.N → s.idx v ≠ 0) ∧ (∀ a e b, g.inc a e b → 1 ≤ s.blk e ∧ s.blk e ≤ s.nb) ∧
      ∀ a e b a' e' b', g.inc a e b → g.inc a' e' b' → (s.blk e = s.blk e' ↔ g.Eqv e e') := by
  obtain ⟨t1, t2, t3⟩ := h.topidx
  obtain ⟨P, L, M, B⟩ := id h
  have full : ∀ v, s.idx v ≠ 0 → s.sc v = g.st (v + 1) := by
    intro v hv
    by_cases hvt : v = s.top
    · rw [hvt]; exact hq
    · refine P.scfin v hv (fun ⟨j, hj, ej⟩ => hvt ?_)
      rw [← ej]; unfold HS.top; rw [show j = s.m - 1 by omega]
  have vis : ∀ v, v < g.N → s.idx v ≠ 0 := by
    intro v hv
    refine hc v hv (fun x => s.idx x ≠ 0) t2 ?_
    rintro x y hx ⟨e, hN, q, q1, q2, q3, q4⟩
    have := P.scvis x q hN q1 (by rw [full x hx]; exact q2)
    rw [q3] at this
    exact this
  have k0 := M.k0 hm
  have all : ∀ a e b, g.inc a e b → 1 ≤ s.blk e ∧ s.blk e ≤ s.nb := by
    intro a e b hab
    obtain ⟨hN, q, q1, q2, q3, q4⟩ := hab
    have hs := P.scseen a q hN q1 (by rw [full a (vis a hN)]; exact q2)
    rw [q4] at hs
    rcases hs with ⟨i, hi, _⟩ | hx
    · omega
    · exact ⟨by omega, B.blkle e⟩
  refine ⟨vis, all, ?_⟩
  have one : ∀ a e b a' e' b', g.inc a e b → g.inc a' e' b' → s.blk e < s.blk e' → g.Eqv e e' → False := by
    intro a e b a' e' b' h1 h2 hlt heq
    have ha := all a e b h1
    have ha' := all a' e' b' h2
    obtain ⟨c, d, c1, c2, c3⟩ := B.b2 e ha.1
    have o := B.bout (s.blk e) ha.1 ha.2
    -- the other edge has no end there
    have notin : ∀ u v, g.inc u e' v → ¬ (s.bu (s.blk e) ≤ s.idx u ∧ s.idx u ≤ s.bh (s.blk e)) := by
      intro u v huv ⟨k1, k2⟩
      have := B.b3 (s.blk e) ha.1 ha.2 u e' v huv k1 k2
      omega
    have hcp : c ≠ s.bp (s.blk e) := fun e' => by rw [e'] at c2; omega
    obtain ⟨u, v, huv, hup⟩ : ∃ u v, g.inc u e' v ∧ u ≠ s.bp (s.blk e) := by
      by_cases hup : a' = s.bp (s.blk e)
      · exact ⟨b', a', ok.symm _ _ _ h2, fun e3 => (ok.lt _ _ _ h2).2 (e3.trans hup.symm)⟩
      · exact ⟨a', b', h2, hup⟩
    have conn := heq (s.bp (s.blk e)) c d u v c1 huv hcp hup
    have := conn (fun x => s.bu (s.blk e) ≤ s.idx x ∧ s.idx x ≤ s.bh (s.blk e)) ⟨c2, c3⟩ ?_
    · exact notin u v huv this
    · rintro x y ⟨k1, k2⟩ ⟨_, n2, e3, h3⟩
      rcases B.b1 (s.blk e) ha.1 ha.2 x e3 y h3 k1 k2 with h | h
      · exact absurd h n2
      · exact h
  intro a e b a' e' b' h1 h2
  constructor
  · intro he
    obtain ⟨p1, p2⟩ := B.b4 e (all a e b h1).1
    obtain ⟨p3, _⟩ := B.b4 e' (all a' e' b' h2).1
    rw [← he] at p3
    exact ok.eqv_trans p2 p1 (ok.eqv_symm p3)
  · intro he
    rcases Nat.lt_trichotomy (s.blk e) (s.blk e') with hlt | heq | hgt
    · exact (one a e b a' e' b' h1 h2 hlt he).elim
    · exact heq
    · exact (one a' e' b' a e b h2 h1 hgt (ok.eqv_symm he)).elim
end
end Go.Proofs.Qxb6602148a
