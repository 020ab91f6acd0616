import Derived.Test.Qxb6602148aDwa
attribute [local go_sem] Go.Proofs.Qxb6602148a.yTo Go.Proofs.Qxb6602148a.yUpon
namespace Go.Proofs.Qxb6602148a
open Go.RowKit
set_option linter.unusedVariables false
set_option linter.unusedSimpArgs false

theorem TInv.m_le {g : DG} {s : TS} (h : TInv g s) : s.m ≤ s.h := by
  have key : ∀ j, j < s.m → j ≤ s.sp j := by
    intro j
    induction j with
    | zero => intro _; omega
    | succ j ih =>
      intro hj
      have h1 := ih (by omega)
      have h2 := h.p2 j (j + 1) (by omega) hj
      omega
  rcases Nat.eq_zero_or_pos s.m with h0 | h0
  · omega
  · have h1 := key (s.m - 1) (by omega)
    have h2 := (h.p1 (s.m - 1) (by omega)).1
    omega
theorem TInv.h_le {g : DG} {s : TS} (h : TInv g s) : s.h ≤ s.vis := by
  have key : ∀ i, i < s.h → i + 1 ≤ s.idx (s.st i) := by
    intro i
    induction i with
    | zero => intro hi; have := (h.s1 0 hi).2.2; omega
    | succ i ih =>
      intro hi
      have h1 := ih (by omega)
      have h2 := h.s2 i (i + 1) (by omega) hi
      omega
  rcases Nat.eq_zero_or_pos s.h with h0 | h0
  · omega
  · have h1 := key (s.h - 1) (by omega)
    have h2 := h.s4 (s.st (s.h - 1))
    omega
/-- The top of the path, among the slots. -/
theorem DSt.top {x : DX} {s : TS} {K : Nat} {ln : Nat → Nat} {ls : Nat → Nat → Nat} {P' : PS} {M' : Fam} {wr : World} (h : DSt x s K ln ls P' M' wr) (hgo : DGo x.P x.c x.n x.sl) (hm : 0 < s.m) : ∃ j, j < x.n ∧ x.sl j = s.top ∧ s.top < x.P.nS := by
  obtain ⟨j, hj, e⟩ := (h.inv.topf hm).2.2.1
  exact ⟨j, hj, e, by rw [← e]; exact hgo.lt j hj⟩
theorem DGo.on_le {P : PS} {c n : Nat} {sl : Nat → Nat} (h : DGo P c n sl) {j : Nat} (hj : j < n) : P.on (sl j) ≤ 4096 := by
  have key : ∀ k, k < P.on (sl j) → (k : Int) ≤ P.out (sl j) k := by
    intro k
    induction k with
    | zero => intro hk; obtain ⟨e, t, e1, _⟩ := h.edge j 0 hj hk; rw [e1]; omega
    | succ k ih =>
      intro hk
      have h1 := ih (by omega)
      have h2 := h.incr j k (k + 1) hj (by omega) hk
      omega
  rcases Nat.eq_zero_or_pos (P.on (sl j)) with h0 | h0
  · omega
  · obtain ⟨e, t, e1, e2, _⟩ := h.edge j (P.on (sl j) - 1) hj (by omega)
    have h1 := key (P.on (sl j) - 1) (by omega)
    rw [e1] at h1
    have := h.nE
    omega

set_option maxRecDepth 40000 in
set_option maxHeartbeats 8000000 in
/-- Regions 12 to 14: the path's end, and whether it has an edge left. -/
theorem dw_head (x : DX) (v7 v39 : Value) (a : Act) (hf : FD x v7 v39 a) (s : TS) (K : Nat) (ln : Nat → Nat) (ls : Nat → Nat → Nat) (P' : PS) (M' : Fam) (wr : World) (hS : DSt x s K ln ls P' M' wr) (hgo : DGo x.P x.c x.n x.sl) (hm : 0 < s.m) (hv : s.vis ≤ 99999999) (Q : Exit → Act → World → Prop)
    (hT : ∀ (K1 : Act → World → Prop) (a : Act) (w' : World) (g10 : Nat), FD x v7 v39 a → DSt x s K ln ls P' M' w' → M'.b 10 = some g10 → a.tmps.getD 10 undef = .pointer (some ⟨g10, (s.m - 1) * 2, none⟩) → a.tmps.getD 11 undef = .int .i64 (s.top : Int) → s.sc s.top < x.P.on s.top → Code.wp Try.prog (dTB (Try.f28.body.getD .skip)) (Exit.then K1 Q) a w')
    (hF : ∀ (a : Act) (w' : World), FD x v7 v39 a → DSt x s K ln ls P' M' w' → a.tmps.getD 11 undef = .int .i64 (s.top : Int) → x.P.on s.top ≤ s.sc s.top → Code.wp Try.prog (tl 3 (d3 (Try.f28.body.getD .skip))) Q a w') :
    Code.wp Try.prog (d3 (Try.f28.body.getD .skip)) Q a wr := by
  obtain ⟨y, rfl⟩ := litd hf
  obtain ⟨jt, jt1, jt2, tS⟩ := hS.top hgo hm
  obtain ⟨kE, kfr, kto, kS, kon, kout, kC⟩ := hS.dr.keeps
  have hS' : s.top < P'.nS := by rw [kS]; exact tS
  have mh := hS.inv.m_le
  have hh := hS.inv.h_le
  have nQ : M'.n 10 = s.m := hS.din.pm.cqn.trans hS.dr.nQ
  obtain ⟨g10, b10⟩ := hS.din.rep.hasBlock (i := 10) (by rw [nQ]; exact hm)
  obtain ⟨g3, b3⟩ := hS.din.rep.hasBlock (i := 3) (by rw [hS.din.pm.nS]; omega)
  have x1 := hS.din.box
  have x2 := hS.din.pm.hdr_some hS.din.rep hS.din.b11 (show 10 < 11 by omega) b10
  rw [nQ] at x2
  have l10 := hS.din.rep.le_cap 10
  have m10 := hS.din.rep.cap_le 10
  rw [nQ] at l10
  simp only [maxLen] at m10
  obtain ⟨q1, q2⟩ := hS.dr.cq (s.m - 1) (by omega)
  have tt : s.nd (s.m - 1) = s.top := rfl
  rw [tt] at q1 q2
  have x3 : wr.cell? ⟨g10, (s.m - 1) * 2, none⟩ = some (.int .i64 (s.top : Int)) := (hS.din.rep.cell b10 (by rw [nQ]; show (s.m - 1) * 2 < s.m * 2; omega)).trans (congrArg some ((hS.din.pm.cq _ (by rw [hS.dr.nQ]; omega)).trans (by rw [Nat.mul_comm (s.m - 1) 2, q1])))
  have x4 : wr.cell? ⟨g10, (s.m - 1) * 2 + 1, none⟩ = some (.int .i64 ((s.sc s.top : Nat) : Int)) := (hS.din.rep.cell b10 (by rw [nQ]; show (s.m - 1) * 2 + 1 < s.m * 2; omega)).trans (congrArg some ((hS.din.pm.cq _ (by rw [hS.dr.nQ]; omega)).trans (by rw [Nat.mul_comm (s.m - 1) 2, q2])))
  have x5 := hS.din.pm.hdr_some hS.din.rep hS.din.b11 (show 3 < 11 by omega) b3
  rw [hS.din.pm.nS, kS] at x5
  have l3 := hS.din.rep.le_cap 3
  rw [hS.din.pm.nS, kS] at l3
  have x6 := hS.din.slot b3 hS' (show 2 < 7 by omega) (hS.din.pm.outh s.top hS')
  unfold Fam.val at x6
  rw [(hS.din.pm.out s.top hS').1, kon] at x6
  have HT : Hid (∀ (K1 : Act → World → Prop) (a : Act) (w' : World) (g10 : Nat), FD x v7 v39 a → DSt x s K ln ls P' M' w' → M'.b 10 = some g10 → a.tmps.getD 10 undef = .pointer (some ⟨g10, (s.m - 1) * 2, none⟩) → a.tmps.getD 11 undef = .int .i64 (s.top : Int) → s.sc s.top < x.P.on s.top → Code.wp Try.prog (dTB (Try.f28.body.getD .skip)) (Exit.then K1 Q) a w') := hT
  have HF : Hid (∀ (a : Act) (w' : World), FD x v7 v39 a → DSt x s K ln ls P' M' w' → a.tmps.getD 11 undef = .int .i64 (s.top : Int) → x.P.on s.top ≤ s.sc s.top → Code.wp Try.prog (tl 3 (d3 (Try.f28.body.getD .skip))) Q a w') := hF
  have HS : Hid (DSt x s K ln ls P' M' wr) := hS
  have B10 : Hid (M'.b 10 = some g10) := b10
  have hon : x.P.on s.top ≤ 4096 := by rw [← jt2]; exact hgo.on_le jt1
  have hcc : ((s.m : Nat) : Int) - 1 = ((s.m - 1 : Nat) : Int) := by omega
  have lm : s.m - 1 < s.m := by omega
  have lmi : ((s.m - 1 : Nat) : Int) < (s.m : Int) := by omega
  have hw1 : IntKind.i64.wrap ((s.m : Int) - 1) = ((s.m - 1 : Nat) : Int) := by rw [IntKind.wrap_i64]; omega
  have hw2 : IntKind.i64.wrap ((s.m - 1 : Nat) : Int) = ((s.m - 1 : Nat) : Int) := by rw [IntKind.wrap_i64]; omega
  clear hT hF hS hgo b10 b3 hf q1 q2 tt nQ kE kfr kto kS kon kout kC jt2 jt1
  generalize Option.map (fun g => (⟨g, 0, none⟩ : Addr)) (M'.b (60 + 3 * s.top)) = ao at *
  generalize M'.cap (60 + 3 * s.top) = ko at *
  generalize M'.cap 3 = k3 at *
  generalize M'.cap 10 = k10 at *
  show Code.wp Try.prog (Code.seq _ (Code.seq _ (Code.seq (Code.seq _ (Code.cond (.tmp 90) (dTB (Try.f28.body.getD .skip)) Code.skip)) (tl 3 (d3 (Try.f28.body.getD .skip)))))) Q _ wr
  refine wp_seq_k (fun K1 hK => ?_)
  have HK : Hid (∀ (a : Act) (w : World), _ → K1 a w) := hK
  clear hK
  go_quiet (fail)
  refine HK.out _ _ ?_
  clear HK K1
  have y1 : (wr.drewN nq).cell? ⟨x.q13, 0, none⟩ = some (.pointer (some ⟨x.p, 0, none⟩)) := x1
  have y3 : (wr.drewN nq).cell? ⟨g10, (s.m - 1) * 2, none⟩ = some (.int .i64 (s.top : Int)) := x3
  have y4 : (wr.drewN nq).cell? ⟨g10, (s.m - 1) * 2 + 1, none⟩ = some (.int .i64 ((s.sc s.top : Nat) : Int)) := x4
  have y5 : (wr.drewN nq).cell? ⟨x.p, 3, none⟩ = some (.slice (some ⟨g3, 0, none⟩) x.P.nS k3) := x5
  have y6 : (wr.drewN nq).cell? ⟨g3, s.top * 7 + 2, none⟩ = some (.slice ao (x.P.on s.top) ko) := x6
  have HS2 : Hid (DSt x s K ln ls P' M' (wr.drewN nq)) := HS.out.drewN nq
  clear x1 x2 x3 x4 x5 x6 HS
  generalize wr.drewN nq = wb at *
  refine wp_seq_k (fun K1 hK => ?_)
  have HK : Hid (∀ (a : Act) (w : World), _ → K1 a w) := hK
  clear hK
  go_wp2
  refine HK.out _ _ ?_
  clear HK K1
  refine wp_seq_k (fun K1 hK => ?_)
  have HK : Hid (∀ (a : Act) (w : World), _ → K1 a w) := hK
  clear hK
  refine wp_seq_k (fun K2 hK => ?_)
  have HK2 : Hid (∀ (a : Act) (w : World), _ → K2 a w) := hK
  clear hK
  by_cases hq : s.sc s.top < x.P.on s.top
  · have hqi : ((s.sc s.top : Nat) : Int) < ((x.P.on s.top : Nat) : Int) := by omega
    go_quiet (fail)
    refine HK2.out _ _ (wp_cond_true (by kernel_rfl) ?_)
    exact HT.out _ _ _ g10 ⟨by kernel_rfl, by kernel_rfl, by kernel_rfl, by kernel_rfl, by kernel_rfl, by kernel_rfl, by kernel_rfl, by kernel_rfl, by kernel_rfl, by kernel_rfl, by kernel_rfl⟩ (HS2.out.drewN _) B10.out (by kernel_rfl) (by kernel_rfl) hq
  · have hqi : ¬ ((s.sc s.top : Nat) : Int) < ((x.P.on s.top : Nat) : Int) := by omega
    go_quiet (fail)
    refine HK2.out _ _ (wp_cond_false (by kernel_rfl) (wp_skip ?_))
    refine HK.out _ _ ?_
    exact HF.out _ _ ⟨by kernel_rfl, by kernel_rfl, by kernel_rfl, by kernel_rfl, by kernel_rfl, by kernel_rfl, by kernel_rfl, by kernel_rfl, by kernel_rfl, by kernel_rfl, by kernel_rfl⟩ (HS2.out.drewN _) (by kernel_rfl) (by omega)
end Go.Proofs.Qxb6602148a
