/-
  PLAIN: the search goes down to a node that was not visited.
-/
import Derived.Test.Qxb6602148aHTa
namespace Go.Proofs.Qxb6602148a
set_option linter.unusedVariables false

section
variable {g : UG} {s : HS}

def HS.down (s : HS) (e b : Nat) : HS :=
  { s with m := s.m + 1, nd := up s.nd s.m b, te := up s.te b e, sc := up s.sc s.top (s.sc s.top + 1), idx := up s.idx b (s.vis + 1), low := up s.low b (s.vis + 1), vis := s.vis + 1,
           met := up s.met s.k e, k := s.k + 1, pos := up s.pos s.m s.k }

theorem HInv.down (ok : g.Ok) (h : HInv g s) (hq : s.sc s.top < g.st (s.top + 1)) (hb0 : s.idx (g.eN (s.sc s.top)) = 0) :
    HInv g (s.down (g.eE (s.sc s.top)) (g.eN (s.sc s.top))) := by
  obtain ⟨t1, t2, t3⟩ := h.topidx
  have bd := h.P.scbd s.top t1
  have i1 := UG.inc_at t1 bd.1 hq
  have ndpos := fun j (hj : j < s.m) => h.nd_pos hj
  have ndle := fun i j (hij : i ≤ j) (hj : j < s.m) => h.nd_le hij hj
  obtain ⟨P, L, M, B⟩ := h
  generalize hE : g.eE (s.sc s.top) = e at *
  generalize hBn : g.eN (s.sc s.top) = b at *
  have hbN : b < g.N := (ok.lt _ _ _ i1).1
  have hmp := P.mpos
  have hns : ¬ s.seen e := fun hs => P.seenends e b s.top hs (ok.symm _ _ _ i1) hb0
  have hub : s.top ≠ b := fun e => t2 (by rw [e]; exact hb0)
  have ndb : ∀ j, j < s.m → s.nd j ≠ b := fun j hj e => by have := ndpos j hj; rw [e, hb0] at this; omega
  have idx' : ∀ v, (s.down e b).idx v = up s.idx b (s.vis + 1) v := fun _ => rfl
  have idxb : (s.down e b).idx b = s.vis + 1 := up_same _ _ _
  have idxo : ∀ v, v ≠ b → (s.down e b).idx v = s.idx v := fun v hv => up_other _ _ hv
  have idxge : ∀ v, s.idx v ≠ 0 → (s.down e b).idx v = s.idx v := fun v hv => idxo v (fun e => hv (by rw [e]; exact hb0))
  have idxnz : ∀ v, (s.down e b).idx v ≠ 0 → v ≠ b → s.idx v ≠ 0 := fun v h hv => by rw [idxo v hv] at h; exact h
  have ndm : (s.down e b).nd s.m = b := up_same _ _ _
  have ndo : ∀ j, j < s.m → (s.down e b).nd j = s.nd j := fun j hj => up_other _ _ (by omega)
  have teo : ∀ v, v ≠ b → (s.down e b).te v = s.te v := fun v hv => up_other _ _ hv
  have teb : (s.down e b).te b = e := up_same _ _ _
  have poso : ∀ j, j < s.m → (s.down e b).pos j = s.pos j := fun j hj => up_other _ _ (by omega)
  have posm : (s.down e b).pos s.m = s.k := up_same _ _ _
  have met' : ∀ i, i < s.k → (s.down e b).met i = s.met i := fun i hi => up_other _ _ (by omega)
  have metk : (s.down e b).met s.k = e := up_same _ _ _
  have nmet : ∀ i, i < s.k → s.met i ≠ e := fun i hi hx => hns (.inl ⟨i, hi, hx⟩)
  have lowo : ∀ v, v ≠ b → (s.down e b).low v = s.low v := fun v hv => up_other _ _ hv
  have lowb : (s.down e b).low b = s.vis + 1 := up_same _ _ _
  have mm : (s.down e b).m = s.m + 1 := rfl
  have kk : (s.down e b).k = s.k + 1 := rfl
  have vv : (s.down e b).vis = s.vis + 1 := rfl
  have ono : ∀ v, ¬ (s.down e b).on v → ¬ s.on v ∧ v ≠ b := by
    intro v hn
    refine ⟨fun ⟨j, hj, ej⟩ => hn ⟨j, by rw [mm]; omega, by rw [ndo j hj]; exact ej⟩, fun e' => hn ⟨s.m, by rw [mm]; omega, by rw [ndm, e']⟩⟩
  have seen' : ∀ x, (s.down e b).seen x → s.seen x ∨ x = e := by
    rintro x (⟨i, hi, hx⟩ | hx)
    · rw [kk] at hi
      by_cases hk : i = s.k
      · rw [hk, metk] at hx; exact .inr hx.symm
      · rw [met' _ (by omega)] at hx; exact .inl (.inl ⟨i, by omega, hx⟩)
    · exact .inl (.inr hx)
  have seenof : ∀ x, s.seen x → (s.down e b).seen x := by
    rintro x (⟨i, hi, hx⟩ | hx)
    · exact .inl ⟨i, by rw [kk]; omega, by rw [met' _ hi]; exact hx⟩
    · exact .inr hx
  have seene : (s.down e b).seen e := .inl ⟨s.k, by rw [kk]; omega, metk⟩
  have sc' : ∀ v, (s.down e b).sc v = up s.sc s.top (s.sc s.top + 1) v := fun _ => rfl
  have lt : ∀ v q, q < (s.down e b).sc v → q < s.sc v ∨ (v = s.top ∧ q = s.sc s.top) := by
    intro v q hq
    rw [sc'] at hq
    by_cases hv : v = s.top
    · subst hv; rw [up_same] at hq; omega
    · rw [up_other _ _ hv] at hq; exact .inl hq
  have ge : ∀ v q, q < s.sc v → q < (s.down e b).sc v := by
    intro v q hq
    rw [sc']
    by_cases hv : v = s.top
    · subst hv; rw [up_same]; omega
    · rw [up_other _ _ hv]; exact hq
  have scb : s.sc b = g.st b := P.scun b hbN hb0
  refine ⟨⟨?_, ?_, ?_, ?_, ?_, ?_, ?_, ?_, ?_, ?_, ?_, ?_, ?_, ?_, ?_, ?_, ?_, ?_⟩, ⟨?_, ?_⟩, ⟨?_, ?_, ?_, ?_, ?_, ?_, ?_, ?_, ?_, ?_, ?_⟩, ⟨B.blkle, ?_, ?_, ?_, ?_, B.b4⟩⟩
  · rw [mm]; omega
  · intro j hj
    rw [mm] at hj
    by_cases hjm : j = s.m
    · rw [hjm, ndm]; exact hbN
    · rw [ndo j (by omega)]; exact P.ndlt j (by omega)
  · intro i j hij hj
    rw [mm] at hj
    rw [ndo i (by omega), idxo _ (ndb i (by omega))]
    by_cases hjm : j = s.m
    · rw [hjm, ndm, idxb]; have := P.idxle (s.nd i); omega
    · rw [ndo j (by omega), idxo _ (ndb j (by omega))]; exact P.ndidx i j hij (by omega)
  · rw [ndo 0 (by omega), idxo _ (ndb 0 (by omega))]; exact P.root
  · intro v
    rw [vv]
    by_cases hv : v = b
    · rw [hv, idxb]; omega
    · rw [idxo v hv]; have := P.idxle v; omega
  · intro v h0
    by_cases hv : v = b
    · rw [hv]; exact hbN
    · exact P.idxlt v (idxnz v h0 hv)
  · intro v v' h0 he
    by_cases hv : v = b
    · by_cases hv' : v' = b
      · omega
      · rw [hv, idxb, idxo v' hv'] at he; have := P.idxle v'; omega
    · by_cases hv' : v' = b
      · rw [hv', idxb, idxo v hv] at he; have := P.idxle v; omega
      · rw [idxo v hv, idxo v' hv'] at he; exact P.idxinj v v' (idxnz v h0 hv) he
  · intro j hj
    rw [mm] at hj
    by_cases hjm : j + 1 = s.m
    · rw [hjm, ndm, teb, ndo j (by omega)]
      have : s.nd j = s.top := by unfold HS.top; rw [show j = s.m - 1 by omega]
      rw [this]; exact i1
    · rw [ndo j (by omega), ndo (j + 1) (by omega), teo _ (ndb _ (by omega))]; exact P.tree j (by omega)
  · intro v hv h0
    have hvb : v ≠ b := fun e' => by rw [e', idxb] at h0; omega
    rw [idxo v hvb] at h0
    have hne : v ≠ s.top := fun e => t2 (by rw [← e]; exact h0)
    rw [sc', up_other _ _ hne]
    exact P.scun v hv h0
  · intro v hv
    rw [sc']
    by_cases e : v = s.top
    · subst e; rw [up_same]; omega
    · rw [up_other _ _ e]; exact P.scbd v hv
  · intro v h0 hn
    obtain ⟨n1, n2⟩ := ono v hn
    have hne : v ≠ s.top := fun e => n1 (by rw [e]; exact t3)
    rw [sc', up_other _ _ hne]
    exact P.scfin v (idxnz v h0 n2) n1
  · intro v q hv h1 h2
    rcases lt v q h2 with h | ⟨rfl, rfl⟩
    · have := P.scvis v q hv h1 h
      rw [idxge _ this]; exact this
    · rw [hBn, idxb]; omega
  · intro v q hv h1 h2
    rcases lt v q h2 with h | ⟨rfl, rfl⟩
    · exact seenof _ (P.scseen v q hv h1 h)
    · rw [hE]; exact seene
  · intro x u v hx huv
    rcases seen' x hx with h | rfl
    · have := P.seenends x u v h huv
      rw [idxge _ this]; exact this
    · rcases ok.two _ _ _ _ _ i1 huv with ⟨rfl, _⟩ | ⟨rfl, _⟩
      · rw [idxge _ t2]; exact t2
      · rw [idxb]; omega
  · intro x u v hx huv hlt
    rcases seen' x hx with h | rfl
    · have hu := P.seenends x u v h huv
      have hv := P.seenends x v u h (ok.symm _ _ _ huv)
      rw [idxge _ hu, idxge _ hv] at hlt
      have hvb : v ≠ b := fun e' => hv (by rw [e']; exact hb0)
      rcases P.deep x u v h huv hlt with h | ⟨q, q1, q2, q3⟩
      · exact .inl (by rw [teo v hvb]; exact h)
      · exact .inr ⟨q, q1, ge _ _ q2, q3⟩
    · rcases ok.two _ _ _ _ _ i1 huv with ⟨rfl, rfl⟩ | ⟨rfl, rfl⟩
      · exact .inl teb
      · rw [idxb, idxge _ t2] at hlt
        have := P.idxle s.top
        omega
  · intro c q h0 hn h1 h2
    obtain ⟨n1, n2⟩ := ono c hn
    have hc := idxnz c h0 n2
    have hcN := P.idxlt c hc
    have hs := P.scfin c hc n1
    have := P.scvis c q hcN h1 (by omega)
    rw [idxge _ this]
    exact P.hinb c q hc n1 h1 h2
  · intro c h0 hn
    obtain ⟨n1, n2⟩ := ono c hn
    have := P.hile c (idxnz c h0 n2) n1
    rw [vv]
    show s.hi c ≤ s.vis + 1
    omega
  · intro c j h0 hn hj
    obtain ⟨n1, n2⟩ := ono c hn
    have hc := idxnz c h0 n2
    rw [mm] at hj
    rw [idxge _ hc]
    by_cases hjm : j = s.m
    · rw [hjm, ndm, idxb]
      have := P.hile c hc n1
      right
      show s.hi c < s.vis + 1
      omega
    · rw [ndo j (by omega), idxo _ (ndb j (by omega))]
      exact P.hipath c j hc n1 (by omega)
  · intro j hj
    rw [mm] at hj
    by_cases hjm : j = s.m
    · refine ⟨j, Nat.le_refl _, ?_, fun d d1 d2 => by omega⟩
      rw [hjm, ndm, lowb, idxb]
    · obtain ⟨c, c1, c2, c3⟩ := L.wit j (by omega)
      refine ⟨c, c1, ?_, ?_⟩
      · rw [ndo j (by omega), ndo c (by omega), lowo _ (ndb j (by omega)), idxo _ (ndb c (by omega))]; exact c2
      · intro d d1 d2
        rw [ndo d (by omega), ndo j (by omega), teo _ (ndb d (by omega)), teo _ (ndb j (by omega))]
        exact c3 d d1 d2
  · intro j hj u q hu h1 h2 h3 h4 h5 h6
    rw [mm] at hj
    by_cases hjm : j = s.m
    · exfalso
      rw [hjm, ndm, idxb] at h1
      have hub' : u = b := by
        apply Classical.byContradiction
        intro hne
        rw [idxo u hne] at h1
        have := P.idxle u
        omega
      subst hub'
      rcases lt u q h4 with h | ⟨h, _⟩
      · omega
      · exact hub h.symm
    · rw [ndo j (by omega)] at h1 h5 h6 ⊢
      rw [idxo _ (ndb j (by omega))] at h1 h5
      rw [teo _ (ndb j (by omega))] at h6
      rw [lowo _ (ndb j (by omega))]
      have hub' : u ≠ b := by
        intro e'
        have := h2 (by rw [mm]; omega)
        rw [e', idxb] at this
        by_cases hj1 : j + 1 = s.m
        · rw [hj1, ndm, idxb] at this; omega
        · rw [ndo (j + 1) (by omega), idxo _ (ndb _ (by omega))] at this
          have := P.idxle (s.nd (j + 1))
          omega
      rw [idxo u hub'] at h1
      have hqb : g.eN q ≠ b := by
        intro e'
        rw [e', idxb] at h5
        have := P.idxle (s.nd j)
        omega
      rw [idxo _ hqb] at h5 ⊢
      rcases lt u q h4 with h | ⟨rfl, rfl⟩
      · refine L.lowL j (by omega) u q hu h1 (fun hj1 => ?_) h3 h h5 h6
        have := h2 (by rw [mm]; omega)
        rw [idxo u hub', ndo (j + 1) hj1, idxo _ (ndb _ hj1)] at this
        exact this
      · exact absurd hBn hqb
  · intro j hj
    rw [mm] at hj
    rw [kk]
    by_cases hjm : j = s.m
    · rw [hjm, posm]; omega
    · rw [poso j (by omega)]; have := M.posle j (by omega); omega
  · intro i j hij hj
    rw [mm] at hj
    by_cases hjm : j = s.m
    · rw [hjm, posm]
      by_cases him : i = s.m
      · rw [him, posm]; omega
      · rw [poso i (by omega)]; exact M.posle i (by omega)
    · rw [poso j (by omega), poso i (by omega)]; exact M.posmono i j hij (by omega)
  · intro _
    by_cases hm1 : s.m = 1
    · have := M.k0 hm1
      rw [← hm1, posm]; exact this
    · rw [poso 1 (by omega)]; exact M.pos1 (by omega)
  · intro h1
    rw [mm] at h1
    omega
  · intro j hj hj'
    rw [mm] at hj'
    rw [kk]
    by_cases hjm : j = s.m
    · rw [hjm, posm, metk, ndm, teb]; exact ⟨by omega, rfl⟩
    · obtain ⟨p1, p2⟩ := M.poste j hj (by omega)
      rw [poso j (by omega), met' _ p1, ndo j (by omega), teo _ (ndb j (by omega))]
      exact ⟨by omega, p2⟩
  · intro j i hj hj' hi hi' hseg
    rw [mm] at hj'
    rw [kk] at hi'
    by_cases hjm : j = s.m
    · rw [hjm, posm] at hi
      have hik : i = s.k := by omega
      rw [hik, metk, hjm, ndm, teb]
      exact ok.eqv_refl e
    · rw [poso j (by omega)] at hi
      have hlt : i < s.k := by
        have := hseg (by rw [mm]; omega)
        by_cases hj1 : j + 1 = s.m
        · rw [hj1, posm] at this; exact this
        · rw [poso (j + 1) (by omega)] at this
          have := M.posle (j + 1) (by omega)
          omega
      rw [met' _ hlt, ndo j (by omega), teo _ (ndb j (by omega))]
      refine M.seg j i hj (by omega) hi hlt (fun hj1 => ?_)
      have := hseg (by rw [mm]; omega)
      rw [poso (j + 1) hj1] at this
      exact this
  · intro j i u v hj hi huv
    rw [mm] at hj
    have hik : i < s.k := by
      by_cases hjm : j = s.m
      · rw [hjm, posm] at hi; exact hi
      · rw [poso j (by omega)] at hi; have := M.posle j (by omega); omega
    rw [met' _ hik] at huv
    have hu := P.seenends _ u v (.inl ⟨i, hik, rfl⟩) huv
    rw [idxge _ hu]
    by_cases hjm : j = s.m
    · rw [hjm, ndm, idxb]; have := P.idxle u; omega
    · rw [poso j (by omega)] at hi
      rw [ndo j (by omega), idxo _ (ndb j (by omega))]
      exact M.below j i u v (by omega) hi huv
  · intro i hi
    rw [kk] at hi
    by_cases hk : i = s.k
    · rw [hk, metk]; exact ⟨_, _, i1⟩
    · rw [met' _ (by omega)]; exact M.metex i (by omega)
  · intro i i' hi hi' hx
    rw [kk] at hi hi'
    by_cases hk : i = s.k
    · by_cases hk' : i' = s.k
      · omega
      · rw [hk, metk, met' _ (by omega)] at hx
        exact absurd hx.symm (nmet i' (by omega))
    · by_cases hk' : i' = s.k
      · rw [hk', metk, met' _ (by omega)] at hx
        exact absurd hx (nmet i (by omega))
      · rw [met' _ (by omega), met' _ (by omega)] at hx
        exact M.metinj i i' (by omega) (by omega) hx
  · intro i hi
    rw [kk] at hi
    by_cases hk : i = s.k
    · rw [hk, metk]
      show s.blk e = 0
      apply Classical.byContradiction
      intro hx
      exact hns (.inr hx)
    · rw [met' _ (by omega)]; exact M.metblk i (by omega)
  · intro j i hj hj' hi hi'
    rw [mm] at hj'
    rw [kk] at hi'
    by_cases hk : i = s.k
    · rw [hk, metk]
      refine ⟨b, s.top, ok.symm _ _ _ i1, ?_⟩
      rw [idxb]
      by_cases hjm : j = s.m
      · rw [hjm, ndm, idxb]; omega
      · rw [ndo j (by omega), idxo _ (ndb j (by omega))]; have := P.idxle (s.nd j); omega
    · have hjm : j ≠ s.m := fun e' => by rw [e', posm] at hi; omega
      rw [poso j (by omega)] at hi
      obtain ⟨u, v, h1, h2⟩ := M.above j i hj (by omega) hi (by omega)
      have hu := P.seenends _ u v (.inl ⟨i, by omega, rfl⟩) h1
      refine ⟨u, v, ?_, ?_⟩
      · rw [met' _ (by omega)]; exact h1
      · rw [idxge _ hu, ndo j (by omega), idxo _ (ndb j (by omega))]; exact h2
  · intro β h1 h2 u x v huv h3 h4
    obtain ⟨o1, o2, o3, o4⟩ := B.bout β h1 h2
    have hub' : u ≠ b := fun e' => by
      rw [e', idxb] at h4
      have : s.bh β ≤ s.vis := o2
      have : s.vis + 1 ≤ s.bh β := h4
      omega
    rw [idxo u hub'] at h3 h4
    rcases B.b1 β h1 h2 u x v huv h3 h4 with h | ⟨h5, h6⟩
    · exact .inl h
    · have hvb : v ≠ b := fun e' => by rw [e', hb0] at h5; omega
      rw [idxo v hvb]
      exact .inr ⟨h5, h6⟩
  · intro β h1 h2
    obtain ⟨o1, o2, o3, o4⟩ := B.bout β h1 h2
    have hbp : (s.down e b).idx (s.bp β) = s.idx (s.bp β) := idxge _ o4
    refine ⟨o1, ?_, ?_, ?_⟩
    · show s.bh β ≤ s.vis + 1
      omega
    · show (s.down e b).idx (s.bp β) < s.bu β
      rw [hbp]; exact o3
    · show (s.down e b).idx (s.bp β) ≠ 0
      rw [hbp]; exact o4
  · intro x h1
    obtain ⟨u, v, h2, h3, h4⟩ := B.b2 x h1
    have o := B.bout (s.blk x) h1 (B.blkle x)
    have hu : s.idx u ≠ 0 := by omega
    refine ⟨u, v, h2, ?_, ?_⟩
    · rw [idxge _ hu]; exact h3
    · rw [idxge _ hu]; exact h4
  · intro β h1 h2 u x v huv h3 h4
    obtain ⟨o1, o2, o3, o4⟩ := B.bout β h1 h2
    have hub' : u ≠ b := fun e' => by
      rw [e', idxb] at h4
      have : s.vis + 1 ≤ s.bh β := h4
      omega
    rw [idxo u hub'] at h3 h4
    exact B.b3 β h1 h2 u x v huv h3 h4
end
end Go.Proofs.Qxb6602148a
