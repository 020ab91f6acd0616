import Derived.Test.Qxb6602148aDwb
attribute [local go_sem] Go.Proofs.Qxb6602148a.yTo Go.Proofs.Qxb6602148a.yUpon
namespace Go.Proofs.Qxb6602148a
open Go.RowKit
set_option linter.unusedVariables false
set_option linter.unusedSimpArgs false

/-- The edge that the path's end looks at. -/
structure Edg (x : DX) (s : TS) (e t : Nat) : Prop where
  out : x.P.out s.top (s.sc s.top) = (e : Int)
  lt : e < x.P.nE
  tot : x.P.to e = (t : Int)
  inA : ∃ j, j < x.n ∧ x.sl j = t
  ne : t ≠ s.top
  tgt : (dg x.P x.n x.sl).tgt s.top (s.sc s.top) = t
theorem DSt.edg {x : DX} {s : TS} {K : Nat} {ln : Nat → Nat} {ls : Nat → Nat → Nat} {P' : PS} {M' : Fam} {wr : World} (h : DSt x s K ln ls P' M' wr) (hgo : DGo x.P x.c x.n x.sl) (hm : 0 < s.m) (hq : s.sc s.top < x.P.on s.top) : ∃ e t, Edg x s e t := by
  obtain ⟨jt, jt1, jt2, tS⟩ := h.top hgo hm
  rw [← jt2] at hq
  obtain ⟨e, t, e1, e2, e3, e4, e5, e6⟩ := hgo.edge jt _ jt1 hq
  rw [jt2] at e1 e3 e6
  refine ⟨e, t, e1, e2, e4, e5, e6, ?_⟩
  show (x.P.to (x.P.out s.top (s.sc s.top)).toNat).toNat = t
  rw [e1, Int.toNat_natCast, e4, Int.toNat_natCast]

set_option maxRecDepth 40000 in
set_option maxHeartbeats 8000000 in
/-- Regions 15 and 16: the next edge, and where it leads. -/
theorem dw_edge1 (x : DX) (v7 v39 : Value) (a : Act) (g10 : Nat) (s : TS) (hf : FD x v7 v39 a) (h10 : a.tmps.getD 10 undef = .pointer (some ⟨g10, (s.m - 1) * 2, none⟩)) (h11 : a.tmps.getD 11 undef = .int .i64 (s.top : Int)) (K : Nat) (ln : Nat → Nat) (ls : Nat → Nat → Nat) (P' : PS) (M' : Fam) (wr : World) (hS : DSt x s K ln ls P' M' wr) (hgo : DGo x.P x.c x.n x.sl) (hm : 0 < s.m) (hv : s.vis ≤ 99999999) (b10 : M'.b 10 = some g10) (hq : s.sc s.top < x.P.on s.top) (e t : Nat) (hE : Edg x s e t) (Q : Exit → Act → World → Prop)
    (hN : ∀ (a : Act) (w' : World), FD x v7 v39 a → a.tmps.getD 11 undef = .int .i64 (s.top : Int) → a.tmps.getD 12 undef = .int .i64 (t : Int) → DIn x.w x.M x.p x.q13 x.q14 ((s.vis : Nat) : Int) w' (M'.set 10 ((s.m - 1) * 2 + 1) (.int .i64 ((s.sc s.top : Int) + 1))) (P'.advQ (s.m - 1) ((s.sc s.top : Int) + 1)) → Code.wp Try.prog (tl 2 (dTB (Try.f28.body.getD .skip))) Q a w') :
    Code.wp Try.prog (dTB (Try.f28.body.getD .skip)) Q a wr := by
  obtain ⟨y, rfl⟩ := litd_10_11 hf h10 h11
  obtain ⟨jt, jt1, jt2, tS⟩ := hS.top hgo hm
  obtain ⟨kE, kfr, kto, kS, kon, kout, kC⟩ := hS.dr.keeps
  have hS' : s.top < P'.nS := by rw [kS]; exact tS
  have nQ : M'.n 10 = s.m := hS.din.pm.cqn.trans hS.dr.nQ
  obtain ⟨g3, b3⟩ := hS.din.rep.hasBlock (i := 3) (by rw [hS.din.pm.nS]; omega)
  obtain ⟨g2, b2⟩ := hS.din.rep.hasBlock (i := 2) (by rw [hS.din.pm.to.1, kE]; have := hE.lt; omega)
  obtain ⟨go, bo⟩ := hS.din.rep.hasBlock (i := 60 + 3 * s.top) (by rw [(hS.din.pm.out s.top hS').1, kon]; omega)
  have x1 := hS.din.box
  obtain ⟨q1, q2⟩ := hS.dr.cq (s.m - 1) (by omega)
  have tt : s.nd (s.m - 1) = s.top := rfl
  rw [tt] at q1 q2
  have x0 : wr.cell? ⟨g10, (s.m - 1) * 2 + 1, none⟩ = some (.int .i64 ((s.sc s.top : Nat) : Int)) := (hS.din.rep.cell b10 (by rw [nQ]; show (s.m - 1) * 2 + 1 < s.m * 2; omega)).trans (congrArg some ((hS.din.pm.cq _ (by rw [hS.dr.nQ]; omega)).trans (by rw [Nat.mul_comm (s.m - 1) 2, q2])))
  have f0 := hS.din.rep.frozen b10 ((s.m - 1) * 2 + 1)
  have x2 := hS.din.pm.hdr_some hS.din.rep hS.din.b11 (show 2 < 11 by omega) b2
  rw [hS.din.pm.to.1, kE] at x2
  have l2 := hS.din.rep.le_cap 2
  rw [hS.din.pm.to.1, kE] at l2
  have x3 := hS.din.pm.hdr_some hS.din.rep hS.din.b11 (show 3 < 11 by omega) b3
  rw [hS.din.pm.nS, kS] at x3
  have l3 := hS.din.rep.le_cap 3
  rw [hS.din.pm.nS, kS] at l3
  have x4 := hS.din.slot b3 hS' (show 2 < 7 by omega) ((hS.din.pm.outh s.top hS').trans (val_some bo))
  rw [(hS.din.pm.out s.top hS').1, kon] at x4
  have lo := hS.din.rep.le_cap (60 + 3 * s.top)
  rw [(hS.din.pm.out s.top hS').1, kon] at lo
  have x5 := (hS.din.pm.out s.top hS').cell hS.din.rep bo (by rw [KP_out]) (show s.sc s.top < P'.on s.top by rw [kon]; exact hq)
  rw [kout, hE.out] at x5
  have x6 := hS.din.pm.to.cell hS.din.rep b2 rfl (show e < P'.nE by rw [kE]; exact hE.lt)
  rw [kto, hE.tot] at x6
  have lE := hE.lt
  have hon : x.P.on s.top ≤ 4096 := by rw [← jt2]; exact hgo.on_le jt1
  have HS : Hid (∀ n, DIn x.w x.M x.p x.q13 x.q14 ((s.vis : Nat) : Int) ((wr.drewN n).setCell ⟨g10, (s.m - 1) * 2 + 1, none⟩ (.int .i64 ((s.sc s.top : Int) + 1))) (M'.set 10 ((s.m - 1) * 2 + 1) (.int .i64 ((s.sc s.top : Int) + 1))) (P'.advQ (s.m - 1) ((s.sc s.top : Int) + 1))) := by
    intro n
    have := hS.din.pm.set_cq ((s.m - 1) * 2 + 1) ((s.sc s.top : Int) + 1)
    refine (hS.din.drewN n).setp b10 (by omega) ?_
    rw [Nat.mul_comm (s.m - 1) 2] at this ⊢
    exact this
  have HN : Hid (∀ (a : Act) (w' : World), FD x v7 v39 a → a.tmps.getD 11 undef = .int .i64 (s.top : Int) → a.tmps.getD 12 undef = .int .i64 (t : Int) → DIn x.w x.M x.p x.q13 x.q14 ((s.vis : Nat) : Int) w' (M'.set 10 ((s.m - 1) * 2 + 1) (.int .i64 ((s.sc s.top : Int) + 1))) (P'.advQ (s.m - 1) ((s.sc s.top : Int) + 1)) → Code.wp Try.prog (tl 2 (dTB (Try.f28.body.getD .skip))) Q a w') := hN
  clear hN hS hgo b10 b3 b2 bo hf q1 q2 tt nQ kE kfr kto kS kon kout kC jt2 jt1 hE h10 h11
  generalize M'.cap (60 + 3 * s.top) = ko at *
  generalize M'.cap 3 = k3 at *
  generalize M'.cap 2 = k2 at *
  show Code.wp Try.prog (Code.seq _ (Code.seq _ (tl 2 (dTB (Try.f28.body.getD .skip))))) Q _ wr
  refine wp_seq_k (fun K1 hK => ?_)
  have HK : Hid (∀ (a : Act) (w : World), _ → K1 a w) := hK
  clear hK
  go_quiet (fail)
  refine HK.out _ _ ?_
  clear HK K1
  have y0 : (wr.drewN nq).cell? ⟨g10, (s.m - 1) * 2 + 1, none⟩ = some (.int .i64 ((s.sc s.top : Nat) : Int)) := x0
  have f0' : (wr.drewN nq).frozen? ⟨g10, (s.m - 1) * 2 + 1, none⟩ = false := f0
  have HS2 := HS.out nq
  have HS3 : Hid (DIn x.w x.M x.p x.q13 x.q14 ((s.vis : Nat) : Int) ((wr.drewN nq).setCell ⟨g10, (s.m - 1) * 2 + 1, none⟩ (.int .i64 ((s.sc s.top : Int) + 1))) (M'.set 10 ((s.m - 1) * 2 + 1) (.int .i64 ((s.sc s.top : Int) + 1))) (P'.advQ (s.m - 1) ((s.sc s.top : Int) + 1))) := HS2
  clear x0 x1 x2 x3 x4 x5 x6 HS HS2 f0
  generalize wr.drewN nq = wb at *
  refine wp_seq_k (fun K1 hK => ?_)
  have HK : Hid (∀ (a : Act) (w : World), _ → K1 a w) := hK
  clear hK
  go_wp2
  refine HK.out _ _ ?_
  exact HN.out _ _ ⟨by kernel_rfl, by kernel_rfl, by kernel_rfl, by kernel_rfl, by kernel_rfl, by kernel_rfl, by kernel_rfl, by kernel_rfl, by kernel_rfl, by kernel_rfl, by kernel_rfl⟩ (by kernel_rfl) (by kernel_rfl) HS3.out
end Go.Proofs.Qxb6602148a
