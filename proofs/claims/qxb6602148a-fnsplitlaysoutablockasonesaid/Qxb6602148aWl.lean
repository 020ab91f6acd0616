import Derived.Test.Qxb6602148aWk
attribute [local go_sem] Go.Proofs.Qxb6602148a.yTo Go.Proofs.Qxb6602148a.yUpon
namespace Go.Proofs.Qxb6602148a
open Go.RowKit
set_option linter.unusedVariables false
set_option linter.unusedSimpArgs false

set_option maxRecDepth 40000 in
set_option maxHeartbeats 8000000 in
/-- A block has been found: it is laid out. -/
theorem walk_cut (x : SC0) (gq kq : Nat) (y : Nat → Value) (v30 v31 v32 : Value) (s : HS) (S : SS) (cq : Nat → Int) (c : Int) (M2 : Fam) (w : World) (via : Nat) (hx : SCx x) (hsq : SQ x.P0 x.LA x.U x.d.N x.str s S) (hcq : CqOk s cq) (hm : 2 ≤ s.m) (hk : s.k ≤ 137438953472) (hq : s.sc s.top = x.U.st (s.top + 1)) (hlow : s.idx s.par ≤ s.low s.top) (hBd : Bd x s) (hvia : s.te s.top = via) (hy33 : y 33 = .int .i64 (via : Int))
    (hmem : SMem x (fun v => ((s.idx v : Nat) : Int)) (fun v => ((up s.low s.par (min (s.low s.par) (s.low s.top)) v : Nat) : Int)) (s.m - 1) cq s.k (fun i => ((s.met i : Nat) : Int)) S (s.nb : Int) c M2 w)
    (Q : Exit → Act → World → Prop) (hQ : Go1 x gq kq s (Q .normal)) :
    Code.wp Try.prog (CUT (Try.f29.body.getD .skip)) Q (LIT y x gq kq (M2.val 27) (.int .i64 (s.vis : Int)) (M2.val 23) v30 v31 v32) w := by
  have hinv := hsq.inv
  have sin := hmem.sin
  have sr := hmem.sr
  have c24 := sr.sb.bl.cell sin.rep sr.bb.1 rfl (show 0 < 1 by omega)
  have f24 := sin.rep.frozen sr.bb.1 0
  have hnb : (s.nb : Int) ≤ 1000000 := by
    have h1 := hsq.nbb
    have h2 := cnt_le (nz S.L) x.P0.nE
    have h3 := hx.nE
    have h4 := hsq.nb
    omega
  have mem1 := hmem.setbl ((s.nb : Int) + 1)
  have cb := mem1.sin.box
  have HM1 : Hid (SMem x _ _ (s.m - 1) cq s.k _ S ((s.nb : Int) + 1) c (M2.set 24 0 (.int .i64 ((s.nb : Int) + 1))) (w.setCell ⟨x.d.q24, 0, none⟩ (.int .i64 ((s.nb : Int) + 1)))) := mem1
  have hcall := newComp_calls (w.setCell ⟨x.d.q24, 0, none⟩ (.int .i64 ((s.nb : Int) + 1))) (M2.set 24 0 (.int .i64 ((s.nb : Int) + 1))) S.P x.d.p mem1.sin.rep mem1.sin.pm (mem1.sin.hp hx.hp) (fun hU => by
    rw [hsq.lay.unused, hsq.lay.nC]
    have e := hsq.lay.nU
    have := hx.sp.u1 (S.P.nU - 1) (by omega)
    omega) (by
    rw [hsq.lay.nC]
    have h1 := hsq.nbb
    have h2 := cnt_le (nz S.L) x.P0.nE
    have h3 := hx.nE
    have h4 := hx.nC
    omega)
  have HCall : Hid (Calls Try.prog 30 #[.pointer (some ⟨x.d.p, 0, none⟩)] (w.setCell ⟨x.d.q24, 0, none⟩ (.int .i64 ((s.nb : Int) + 1))) fun e w' => e = .returned (.int .i64 (S.P.compNo : Int)) ∧ POut (w.setCell ⟨x.d.q24, 0, none⟩ (.int .i64 ((s.nb : Int) + 1))) (M2.set 24 0 (.int .i64 ((s.nb : Int) + 1))) w' S.P.newComp) := hcall
  have hcomp : S.P.compNo = x.P0.cs (x.LA.nb + s.nb) := by rw [hsq.lay.compNo, hsq.nb]
  have d1 : x.q33 ≠ x.d.q24 := sin.ne sin.b33 sr.bb.1 (by omega)
  have HK25 : Hid (∀ w', POut (w.setCell ⟨x.d.q24, 0, none⟩ (.int .i64 ((s.nb : Int) + 1))) (M2.set 24 0 (.int .i64 ((s.nb : Int) + 1))) w' S.P.newComp → (∃ v, w'.cell? ⟨x.d.q25, 0, none⟩ = some v) ∧ w'.frozen? ⟨x.d.q25, 0, none⟩ = false ∧
      ∃ M6, M6.val 23 = M2.val 23 ∧ M6.val 27 = M2.val 27 ∧ Pop x s { S with P := S.P.newComp, L := { S.L with nb := S.L.nb + 1, kb := up S.L.kb (S.L.nb + 1) S.L.t } } s.k cq M6 (w'.setCell ⟨x.d.q25, 0, none⟩ (.int .i64 ((S.P.compNo : Nat) : Int)))) := by
    rintro w' ⟨M3, r, pm, g, lo⟩
    have s3 := HM1.out.sin.call r pm g lo
    have r3 := HM1.out.sr.loc lo
    have m3 : SMem x _ _ (s.m - 1) cq s.k _ ({ S with P := S.P.newComp, L := { S.L with nb := S.L.nb + 1, kb := up S.L.kb (S.L.nb + 1) S.L.t } } : SS) ((s.nb : Int) + 1) c M3 w' := ⟨s3, r3⟩
    have m4 := m3.setc ((S.P.compNo : Nat) : Int)
    refine ⟨⟨_, r3.sb.c.cell s3.rep r3.bb.2.1 rfl (by omega)⟩, s3.rep.frozen r3.bb.2.1 0, M3.set 25 0 (.int .i64 ((S.P.compNo : Nat) : Int)), ?_, ?_, ⟨?_, hsq.start hx.sp hx.m0 hm, hcq⟩⟩
    · rw [set_val]; exact (lo.val (by unfold Own; omega)).trans rfl
    · rw [set_val]; exact (lo.val (by unfold Own; omega)).trans rfl
    · rw [← hcomp]; exact m4
  have pst := hinv.M.poste (s.m - 1) (by omega) (by omega)
  have HQ : Hid (Go1 x gq kq s (Q .normal)) := hQ
  have HX : Hid (SCx x) := hx
  have HI : Hid (HInv x.U s) := hinv
  have HBD : Hid (Bd x s) := hBd
  have Hq : Hid (s.sc s.top = x.U.st (s.top + 1)) := hq
  have Hvia : Hid (s.te s.top = via) := hvia
  have Hps : Hid (s.pos (s.m - 1) < s.k) := pst.1
  clear hQ hx hsq hinv sin sr hmem mem1 hcall hcomp pst hBd hq hvia hcq
  unfold LIT LITv
  rw [hy33]
  show Code.wp Try.prog (Code.seq _ (Code.seq _ (tl 2 (CUT (Try.f29.body.getD .skip))))) Q _ w
  refine wp_seq_k (fun K hK => ?_)
  have HK : Hid (∀ (a : Act) (w : World), _ → K a w) := hK
  clear hK
  go_wp2
  refine HK.out _ _ ?_
  clear HK K
  refine wp_seq_k (fun K hK => ?_)
  have HK : Hid (∀ (a : Act) (w : World), Code.wp Try.prog (tl 2 (CUT (Try.f29.body.getD .skip))) Q a w → K a w) := hK
  clear hK
  go_wp2_with (go_at_call 30; refine HCall.out.mono ?_; rintro e w' ⟨rfl, hpo⟩; obtain ⟨⟨vv, c25⟩, f25, HH⟩ := HK25.out w' hpo; clear hpo)
  obtain ⟨M6, e23, e27, hPop⟩ := HH
  refine HK.out _ _ (walk_loop8 x gq kq _ (M2.val 27) (M2.val 27) s cq via _ HX.out HI.out hm hk Hvia.out ⟨⟨by kernel_rfl, by kernel_rfl, by kernel_rfl, by kernel_rfl, by kernel_rfl, by kernel_rfl, by kernel_rfl, by kernel_rfl, by kernel_rfl, by kernel_rfl, by kernel_rfl, by kernel_rfl, by kernel_rfl⟩, by kernel_rfl, by kernel_rfl, by kernel_rfl, _, s.k, M6, Hps.out, Eq.trans (by kernel_rfl) e23.symm, e27, hPop⟩ Q ?_)
  intro a w2 S' M7 f1 f2 f3 f4 f5 hP7
  obtain ⟨s', hS', g1, g2, g3⟩ := hP7.finish HX.out.ok HI.out HX.out.LA hm Hq.out hlow rfl
  have k7 : s'.k = s.pos (s.m - 1) := hS'.sr.me.1.symm.trans hP7.mem.sr.me.1
  refine HQ.out a w2 (2 * gap x.U s'.sc x.U.N + s'.m) f1 ?_ (by rw [g2, g3]; omega)
  rw [f2, f3, f4]
  refine SRel.run hS' rfl f5.symm (by rw [g1]) rfl ?_
  have h1 := HBD.out.1
  have h2 := HBD.out.2
  have h3 := Hps.out
  unfold Bd
  rw [g1, g2, k7]
  omega
end Go.Proofs.Qxb6602148a
