/-
  'divide': the search is done: what the calls of 'split' are handed.
-/
import Derived.Test.Qxb6602148aDp
import Derived.Test.Qxb6602148aDwk
attribute [local go_sem] Go.Proofs.Qxb6602148a.yTo Go.Proofs.Qxb6602148a.yUpon
namespace Go.Proofs.Qxb6602148a
set_option linter.unusedVariables false
set_option linter.unusedSimpArgs false

/-- Inside a strongly connected component. -/
theorem Rch.scc {R : Nat → Nat → Prop} {u v : Nat} (h : Rch R u v) (hb : Rch R v u) : Rch (fun x y => R x y ∧ (Rch R u x ∧ Rch R x u) ∧ (Rch R u y ∧ Rch R y u)) u v := by
  have key := h (fun x => Rch R u x ∧ (Rch R x u → Rch (fun x y => R x y ∧ (Rch R u x ∧ Rch R x u) ∧ (Rch R u y ∧ Rch R y u)) u x)) ⟨Rch.refl _ _, fun _ => Rch.refl _ _⟩ (by
    rintro x y ⟨h1, h2⟩ r
    refine ⟨h1.step r, fun hy => ?_⟩
    have hx : Rch R x u := (Rch.one r).trans hy
    exact (h2 hx).step ⟨r, ⟨h1, hx⟩, h1.step r, hy⟩)
  exact key.2 hb

section
variable {x : DX} {s : TS} {K : Nat} {ln : Nat → Nat} {ls : Nat → Nat → Nat} {lk : Nat → Nat} {P' : PS}

theorem DR.ns (h : DR x.P x.c s P') (m : Nat) : P'.ns m = x.P.ns m := by
  obtain ⟨_, _, _, _, _, _, _, e⟩ := h.eq
  rw [e]; rfl
theorem DR.spare (h : DR x.P x.c s P') (hs : Spare x.P) : Spare P' := by
  obtain ⟨_, _, _, _, _, _, _, e⟩ := h.eq
  rw [e]
  exact ⟨hs.f1, hs.f2, hs.u1, hs.u2⟩

/-- All have been put in a component. -/
theorem done_lab (inv : TInv (dg x.P x.n x.sl) s) (hP : DPl x x.n s K ln ls lk) (hm : s.m = 0) {j : Nat} (hj : j < x.n) : s.lab (x.sl j) ≠ 0 := by
  rcases hP.cov j hj with h | h
  · exact h
  · obtain ⟨i, hi, _⟩ := inv.s3 _ h
    have := inv.p4 hm
    omega

theorem done_DL (hgo : DGo x.P x.c x.n x.sl) (dr : DR x.P x.c s P') (inv : TInv (dg x.P x.n x.sl) s) (hP : DPl x x.n s K ln ls lk) (hm : s.m = 0) : DL P' K ln ls := by
  obtain ⟨kE, kfr, kto, kS, kon, kout, kC⟩ := dr.keeps
  have inA : ∀ k i, k < K → i < ln k → ∃ j, j < x.n ∧ x.sl j = ls k i := by
    intro k i hk hi
    have h1 := hP.li.k4 k i hk hi
    have h2 := (hP.li.k1 k hk).1
    exact inv.a1 _ (by omega)
  refine ⟨fun k hk => ⟨hP.li.k3 k hk, ?_⟩, fun k i hk hi => ?_, fun k i j hk => hP.li.k5 k i j hk, fun k i hk hi m => ?_, fun k k' i i' hk hk' hi hi' he => ?_, fun k i j hk hi hj => ?_, fun k i j j' hk hi h1 h2 => ?_, fun k a b hk ha hb => ?_, dr.spare hgo.sp, by rw [kE]; exact hgo.nE, by rw [kS]; exact hgo.nS, by rw [kC]; exact hgo.nC, ?_, ?_, ?_⟩
  · have : ∀ i, ∃ j, i < ln k → j < x.n ∧ x.sl j = ls k i := by
      intro i
      by_cases hi : i < ln k
      · obtain ⟨j, h⟩ := inA k i hk hi; exact ⟨j, fun _ => h⟩
      · exact ⟨0, fun h => absurd h hi⟩
    obtain ⟨f, hf⟩ := Classical.axiomOfChoice this
    have := pigeon x.n (ln k) f (fun i hi => (hf i hi).1) (fun i j hi hj e => hP.li.k5 k i j hk hi hj (by rw [← (hf i hi).2, ← (hf j hj).2, e]))
    have := hgo.n1
    omega
  · obtain ⟨j, j1, j2⟩ := inA k i hk hi
    rw [kS, ← j2]; exact hgo.lt j j1
  · obtain ⟨j, j1, j2⟩ := inA k i hk hi
    rw [dr.ns, ← j2]
    unfold PS.ns
    have hlt := hgo.lt j j1
    by_cases hm' : m < x.P.nF
    · rw [if_pos hm']
      intro e
      have h1 := hgo.sp.f1 (x.P.nF - 1 - m) (by omega)
      exact hgo.free j (x.P.nF - 1 - m) j1 (by omega) (by omega)
    · rw [if_neg hm']; omega
  · have h1 := hP.li.k4 k i hk hi
    have h2 := hP.li.k4 k' i' hk' hi'
    rw [he] at h1
    exact hP.li.k2 k k' hk hk' (h1.symm.trans h2)
  · obtain ⟨j0, j1, j2⟩ := inA k i hk hi
    rw [kon, ← j2] at hj
    obtain ⟨e, t, e1, e2, e3, e4, ⟨j', j'1, j'2⟩, e6⟩ := hgo.edge j0 j j1 hj
    rw [j2] at e1 e3 e6
    exact ⟨e, t, by rw [kout]; exact e1, by rw [kE]; exact e2, by rw [kfr]; exact e3, by rw [kto]; exact e4, by rw [kS, ← j'2]; exact hgo.lt j' j'1, e6⟩
  · obtain ⟨j0, j1, j2⟩ := inA k i hk hi
    rw [kon, ← j2] at h2
    have := hgo.incr j0 j j' j1 h1 h2
    rw [j2] at this
    rw [kout]; exact this
  · -- connected
    have la := hP.li.k4 k a hk ha
    have lb := hP.li.k4 k b hk hb
    have l1 := (hP.li.k1 k hk).1
    obtain ⟨m1, m2⟩ := (inv.a3 (ls k a) (ls k b) (by omega) (by omega)).1 (la.trans lb.symm)
    have hs := m1.scc m2
    have key := hs (fun y => ∃ i, i < ln k ∧ ls k i = y ∧ Rch (fun a b => ∃ e, II P' (ln k) (ls k) a e b) a i) ⟨a, ha, rfl, Rch.refl _ _⟩ (by
      rintro y z ⟨i, i1, i2, i3⟩ ⟨⟨y1, z1, kk, kk1, kk2⟩, ⟨y2, y3⟩, z2, z3⟩
      -- z is in the list
      have lz : s.lab z = lk k := by
        obtain ⟨jz, jz1, jz2⟩ := z1
        have hz := done_lab inv hP hm jz1
        rw [jz2] at hz
        have := (inv.a3 (ls k a) z (by omega) hz).2 ⟨z2, z3⟩
        rw [← this]; exact la
      obtain ⟨j, j1, j2⟩ := hP.li.k6 k z hk lz
      refine ⟨j, j1, j2, i3.step ?_⟩
      obtain ⟨j0, j01, j02⟩ := y1
      have kk1 : kk < x.P.on y := kk1
      have kk2 : (x.P.to (x.P.out y kk).toNat).toNat = z := kk2
      rw [← j02] at kk1
      obtain ⟨e, t, e1, e2, e3, e4, e5, e6⟩ := hgo.edge j0 kk j01 kk1
      rw [j02] at e1 e3 e6
      rw [e1, Int.toNat_natCast, e4, Int.toNat_natCast] at kk2
      rw [j02] at kk1
      refine ⟨e, .inl ⟨i1, j1, ⟨kk, by rw [kon, i2]; exact kk1, by rw [kout, i2]; exact e1⟩, by rw [kto, e4, j2, kk2]⟩⟩)
    obtain ⟨i, i1, i2, i3⟩ := key
    have := hP.li.k5 k i b hk i1 hb i2
    rw [← this]; exact i3
  · obtain ⟨_, _, _, _, _, _, _, e⟩ := dr.eq
    intro j hj
    rw [e] at hj ⊢
    show upn x.P.mn x.c 0 (x.P.unused j).toNat = 0
    by_cases e1 : (x.P.unused j).toNat = x.c
    · rw [e1, upn_same]
    · rw [upn_other _ _ e1]; exact hgo.m0 j hj
  · obtain ⟨_, _, _, _, _, _, _, e⟩ := dr.eq
    rw [e]; exact hgo.mks
  · obtain ⟨_, _, _, _, _, _, _, e⟩ := dr.eq
    intro s hs
    rw [e] at hs ⊢
    exact hgo.mark s hs
end
end Go.Proofs.Qxb6602148a
