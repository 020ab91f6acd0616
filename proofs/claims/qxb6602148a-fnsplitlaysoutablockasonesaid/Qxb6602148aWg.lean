import Derived.Test.Qxb6602148aWf
attribute [local go_sem] Go.Proofs.Qxb6602148a.yTo Go.Proofs.Qxb6602148a.yUpon
namespace Go.Proofs.Qxb6602148a
open Go.RowKit
set_option linter.unusedVariables false
set_option linter.unusedSimpArgs false

theorem cell_other_off {w : World} {g o o' : Nat} {v : Value} (h : o ≠ o') : (w.setCell ⟨g, o', none⟩ v).cell? ⟨g, o, none⟩ = w.cell? ⟨g, o, none⟩ := by
  simp only [World.cell?, World.setCell, Array.getElem?_modify]
  cases hg : w.heap[g]? with
  | none => simp
  | some ob =>
    cases ob <;> simp [Ne.symm h]

theorem SRel.cast {x : SC0} {n : Nat} {a b c a' b' c' : Value} {w : World} (h : SRel x n a b c w) (e1 : a' = a) (e2 : b' = b) (e3 : c' = c) : SRel x n a' b' c' w := by
  subst e1 e2 e3
  exact h

/-- What follows where a block has been found. -/
def CUT (c : Code) : Code := tl 6 (PB' c)

/-- The path's end is left, and no block has been found yet, or one has: then 'CUT' follows. -/
def Cut1 (x : SC0) (gq kq : Nat) (s : HS) (S : SS) (cq : Nat → Int) (c : Int) (Q : Exit → Act → World → Prop) : Prop :=
  ∀ (a : Act) (M2 : Fam) (w' : World), FIC x gq kq a → a.tmps.getD 27 undef = M2.val 27 → a.tmps.getD 28 undef = .int .i64 (s.vis : Int) → a.tmps.getD 29 undef = M2.val 23 → a.tmps.getD 33 undef = .int .i64 ((s.te s.top : Nat) : Int) →
    SMem x (fun v => ((s.idx v : Nat) : Int)) (fun v => ((up s.low s.par (min (s.low s.par) (s.low s.top)) v : Nat) : Int)) (s.m - 1) cq s.k (fun i => ((s.met i : Nat) : Int)) S (s.nb : Int) c M2 w' → Code.wp Try.prog (CUT (Try.f29.body.getD .skip)) Q a w'

set_option maxRecDepth 40000 in
set_option maxHeartbeats 8000000 in
theorem walk_pop (x : SC0) (gq kq : Nat) (y : Nat → Value) (v32 : Value) (s : HS) (S : SS) (cq : Nat → Int) (c : Int) (M' : Fam) (wr : World) (g27 : Nat) (hS : Srch x s S cq c M' wr) (hBd : Bd x s) (ok : x.U.Ok) (hUN : x.U.N = x.d.N) (hT : x.d.T ≤ 137438953472) (hN : x.d.N ≤ 4096) (b27 : M'.b 27 = some g27) (hq : s.sc s.top = x.U.st (s.top + 1))
    (Q : Exit → Act → World → Prop) (hQ : Go1 x gq kq s (Q (.exit 13))) (hC : 2 ≤ s.m → s.idx s.par ≤ s.low s.top → Cut1 x gq kq s S cq c Q) :
    Code.wp Try.prog (PB' (Try.f29.body.getD .skip)) Q (LIT y x gq kq (M'.val 27) (.int .i64 (s.vis : Int)) (M'.val 23) (.pointer (some ⟨g27, (s.m - 1) * 3, none⟩)) (.int .i64 (s.top : Int)) v32) wr := by
  have inv := hS.sq.inv
  have mp := inv.P.mpos
  obtain ⟨t1, t2, t3⟩ := inv.topidx
  have tN' : s.top < x.d.N := by omega
  have cl := hS.cqf (s.m - 1) (by omega)
  have tt : s.nd (s.m - 1) = s.top := rfl
  have c1 := (hS.sin.rep.cell b27 (j := (s.m - 1) * 3 + 1) (by rw [hS.sr.cl.1]; show (s.m - 1) * 3 + 1 < s.m * 3; omega)).trans (congrArg some (hS.sr.cl.2 _ (by omega)))
  rw [cl.2.1, tt] at c1
  have l27 := hS.sin.rep.le_cap 27
  have m27 := hS.sin.rep.cap_le 27
  simp only [maxLen] at m27
  rw [hS.sr.cl.1] at l27
  have v27 : M'.val 27 = .slice (some ⟨g27, 0, none⟩) s.m (M'.cap 27) := by rw [val_some b27, hS.sr.cl.1]
  have hmv := inv.m_le
  have hvis : s.vis ≤ 137438953473 := by have := hBd.1; omega
  have HQ : Hid (Go1 x gq kq s (Q (.exit 13))) := hQ
  have HC : Hid (2 ≤ s.m → s.idx s.par ≤ s.low s.top → Cut1 x gq kq s S cq c Q) := hC
  have HS : Hid (Srch x s S cq c M' wr) := hS
  have HB : Hid (M'.b 27 = some g27) := b27
  have HQE : Hid (s.sc s.top = x.U.st (s.top + 1)) := hq
  have HBD : Hid (Bd x s) := hBd
  have HOk : Hid (x.U.Ok) := ok
  unfold LIT LITv
  rw [v27]
  clear v27
  show Code.wp Try.prog (Code.seq _ (Code.seq _ (Code.seq (Code.seq _ (Code.cond _ (Code.exit 13) Code.skip)) (Code.seq _ (Code.seq _ (Code.seq (Code.seq _ (Code.cond _ (Code.exit 13) Code.skip)) (CUT (Try.f29.body.getD .skip)))))))) Q _ wr
  by_cases hm : 2 ≤ s.m
  · have hpl : s.nd (s.m - 2) < x.d.N := by rw [← hUN]; exact inv.P.ndlt _ (by omega)
    have hpl' : s.par < x.d.N := hpl
    have clp := hS.cqf (s.m - 2) (by omega)
    have cp := (hS.sin.rep.cell b27 (j := (s.m - 2) * 3) (by rw [hS.sr.cl.1]; show (s.m - 2) * 3 < s.m * 3; omega)).trans (congrArg some (hS.sr.cl.2 _ (by omega)))
    rw [clp.1] at cp
    have pp : s.nd (s.m - 2) = s.par := rfl
    rw [pp] at cp
    have clu : wr.cell? ⟨x.d.g22, s.top, none⟩ = some (.int .i64 ((s.low s.top : Nat) : Int)) := hS.sr.lw.2.1.cell hS.sin.rep hS.sr.lw.1 rfl tN'
    have clp2 : wr.cell? ⟨x.d.g22, s.par, none⟩ = some (.int .i64 ((s.low s.par : Nat) : Int)) := hS.sr.lw.2.1.cell hS.sin.rep hS.sr.lw.1 rfl hpl'
    have cip : wr.cell? ⟨x.d.g20, s.par, none⟩ = some (.int .i64 ((s.idx s.par : Nat) : Int)) := hS.sr.ix.2.1.cell hS.sin.rep hS.sr.ix.1 rfl hpl'
    have flp := hS.sin.rep.frozen hS.sr.lw.1 s.par
    have d3 : x.d.g20 ≠ x.d.g22 := hS.sin.ne hS.sr.ix.1 hS.sr.lw.1 (by omega)
    have pne : s.top ≠ s.par := fun h => by
      have := inv.nd_inj (i := s.m - 1) (j := s.m - 2) (by omega) (by omega) h
      omega
    have hmin := run_min2n
    rw [if_neg (by omega)] at c1
    have Inv : Hid (HInv x.U s) := inv
    clear hQ hC hS cl b27 tt t3 t2 clp pp inv hq hBd ok
    refine wp_seq_k (fun K hK => ?_)
    have HK : Hid (∀ (a : Act) (w : World), _ → K a w) := hK
    clear hK
    go_wp2
    refine HK.out _ _ ?_
    clear HK K
    refine wp_seq_k (fun K hK => ?_)
    have HK : Hid (∀ (a : Act) (w : World), _ → K a w) := hK
    clear hK
    go_wp2
    refine HK.out _ _ ?_
    clear HK K
    refine wp_seq_k (fun K hK => ?_)
    have HK : Hid (∀ (a : Act) (w : World), _ → K a w) := hK
    clear hK
    have hm1 : ¬ ((s.m - 1 : Nat) : Int) = 0 := by omega
    have hm1' : s.m - 1 ≠ 0 := by omega
    go_wp2
    refine HK.out _ _ ?_
    clear HK K
    refine wp_seq_k (fun K hK => ?_)
    have HK : Hid (∀ (a : Act) (w : World), _ → K a w) := hK
    clear hK
    have hmm : ((s.m - 1 : Nat) : Int) - 1 = ((s.m - 2 : Nat) : Int) := by omega
    go_wp2
    refine HK.out _ _ ?_
    clear HK K
    refine wp_seq_k (fun K hK => ?_)
    have HK : Hid (∀ (a : Act) (w : World), _ → K a w) := hK
    clear hK
    have FK : Hid (∀ k w', k ≤ 0 → C1 wr.drew ((wr.setCell ⟨x.d.g22, s.par, none⟩ (.int .i64 ((min (s.low s.par) (s.low s.top) : Nat) : Int))).drew) k w' → w' = wr.drew) := by
      intro k w' hk hw
      have hk : k = 0 := by omega
      subst hk
      exact hw
    refine wp_region_stage (C1 wr.drew ((wr.setCell ⟨x.d.g22, s.par, none⟩ (.int .i64 ((min (s.low s.par) (s.low s.top) : Nat) : Int))).drew)) [12] (fun i => 0) (by kernel_rfl) (by kernel_rfl) (rfl) ?_
    refine wpStage_read rfl rfl ?_
    apply Exists.intro
    refine ⟨fun k w' hk hw => ?_, ?_⟩
    · go_simp
      first | rfl | exact ⟨rfl, hw⟩
    go_simp
    refine wpStage_read rfl rfl ?_
    apply Exists.intro
    refine ⟨fun k w' hk hw => ?_, ?_⟩
    · go_simp
      first | rfl | exact ⟨rfl, hw⟩
    go_simp
    refine wpStage_read rfl rfl ?_
    apply Exists.intro
    refine ⟨fun k w' hk hw => ?_, ?_⟩
    · go_simp
      first | rfl | exact ⟨rfl, hw⟩
    go_simp
    refine wpStage_read rfl rfl ?_
    apply Exists.intro
    refine ⟨fun k w' hk hw => ?_, ?_⟩
    · go_simp
      first | rfl | exact ⟨rfl, hw⟩
    go_simp
    refine wpStage_read rfl rfl ?_
    apply Exists.intro
    refine ⟨fun k w' hk hw => ?_, ?_⟩
    · go_simp
      first | rfl | exact ⟨rfl, hw⟩
    go_simp
    refine wpStage_read rfl rfl ?_
    apply Exists.intro
    refine ⟨fun k w' hk hw => ?_, ?_⟩
    · have hw0 := FK.out k w' hk hw
      subst hw0
      go_simp
      first | rfl | exact ⟨rfl, hw⟩
    go_simp
    refine wpStage_read rfl rfl ?_
    apply Exists.intro
    refine ⟨fun k w' hk hw => ?_, ?_⟩
    · go_simp
      first | rfl | exact ⟨rfl, hw⟩
    go_simp
    refine wpStage_read rfl rfl ?_
    apply Exists.intro
    refine ⟨fun k w' hk hw => ?_, ?_⟩
    · go_simp
      first | rfl | exact ⟨rfl, hw⟩
    go_simp
    refine wpStage_read rfl rfl ?_
    apply Exists.intro
    refine ⟨fun k w' hk hw => ?_, ?_⟩
    · go_simp
      first | rfl | exact ⟨rfl, hw⟩
    go_simp
    refine wpStage_read rfl rfl ?_
    apply Exists.intro
    refine ⟨fun k w' hk hw => ?_, ?_⟩
    · have hw0 := FK.out k w' hk hw
      subst hw0
      go_simp
      first | rfl | exact ⟨rfl, hw⟩
    go_simp
    refine wpStage_read rfl rfl ?_
    apply Exists.intro
    refine ⟨fun k w' hk hw => ?_, ?_⟩
    · skip
      go_simp
      first | rfl | exact ⟨rfl, hw⟩
    go_simp
    refine wpStage_read rfl rfl ?_
    apply Exists.intro
    refine ⟨fun k w' hk hw => ?_, ?_⟩
    · go_simp
      first | rfl | exact ⟨rfl, hw⟩
    go_simp
    refine wpStage_move rfl rfl ?_
    apply Exists.intro
    refine ⟨fun w' hw => ?_, ?_⟩
    · have hw : w' = wr.drew := hw
      subst hw
      go_simp
      first | rfl | exact ⟨rfl, rfl⟩
    go_simp
    intro w' hw
    have hw : w' = ((wr.setCell ⟨x.d.g22, s.par, none⟩ (.int .i64 ((min (s.low s.par) (s.low s.top) : Nat) : Int))).drew) := hw
    subst hw
    refine HK.out _ _ ?_
    clear HK K FK
    have clu' : ((wr.setCell ⟨x.d.g22, s.par, none⟩ (.int .i64 ((min (s.low s.par) (s.low s.top) : Nat) : Int))).drew).cell? ⟨x.d.g22, s.top, none⟩ = some (.int .i64 ((s.low s.top : Nat) : Int)) := by
      show (wr.setCell _ _).cell? _ = _
      rw [show (wr.setCell ⟨x.d.g22, s.par, none⟩ (.int .i64 ((min (s.low s.par) (s.low s.top) : Nat) : Int))).cell? ⟨x.d.g22, s.top, none⟩ = wr.cell? ⟨x.d.g22, s.top, none⟩ from cell_other_off pne]
      exact clu
    have cip' : ((wr.setCell ⟨x.d.g22, s.par, none⟩ (.int .i64 ((min (s.low s.par) (s.low s.top) : Nat) : Int))).drew).cell? ⟨x.d.g20, s.par, none⟩ = some (.int .i64 ((s.idx s.par : Nat) : Int)) := by
      show (wr.setCell _ _).cell? _ = _
      rw [cell_ne d3]
      exact cip
    have mem : Hid (SMem x (fun v => ((s.idx v : Nat) : Int)) (fun v => ((up s.low s.par (min (s.low s.par) (s.low s.top)) v : Nat) : Int)) (s.m - 1) cq s.k (fun i => ((s.met i : Nat) : Int)) S (s.nb : Int) c ((M'.put 27 (M'.b 27) (s.m - 1) (M'.cap 27) (M'.F 27)).set 22 s.par (.int .i64 ((min (s.low s.par) (s.low s.top) : Nat) : Int))) ((wr.setCell ⟨x.d.g22, s.par, none⟩ (.int .i64 ((min (s.low s.par) (s.low s.top) : Nat) : Int))).drew)) := by
      have := (HS.out.mem.cutcall (m' := s.m - 1) (by omega)).setlw s.par ((min (s.low s.par) (s.low s.top) : Nat) : Int)
      rw [upd_cast] at this
      exact this.drew
    clear clu clp2 cip
    have W : ∃ W, W = ((wr.setCell ⟨x.d.g22, s.par, none⟩ (.int .i64 ((min (s.low s.par) (s.low s.top) : Nat) : Int))).drew) := ⟨_, rfl⟩
    obtain ⟨W, hW⟩ := W
    rw [← hW] at clu' cip' mem
    rw [← hW]
    clear hW
    have V27 : Hid (((M'.put 27 (M'.b 27) (s.m - 1) (M'.cap 27) (M'.F 27)).set 22 s.par (.int .i64 ((min (s.low s.par) (s.low s.top) : Nat) : Int))).val 27 = .slice (some ⟨g27, 0, none⟩) (s.m - 1) (M'.cap 27)) := by
      rw [Hid, set_val, put_vals, HB.out]; rfl
    have V23 : Hid (((M'.put 27 (M'.b 27) (s.m - 1) (M'.cap 27) (M'.F 27)).set 22 s.par (.int .i64 ((min (s.low s.par) (s.low s.top) : Nat) : Int))).val 23 = M'.val 23) := by
      rw [Hid, set_val, put_val (by omega)]
    refine wp_seq_k (fun K hK => ?_)
    have HK : Hid (∀ (a : Act) (w : World), Code.wp Try.prog (CUT (Try.f29.body.getD .skip)) Q a w → K a w) := hK
    clear hK
    refine wp_seq_k (fun K2 hK => ?_)
    have HK2 : Hid (∀ (a : Act) (w : World), Code.wp Try.prog (Code.cond (.tmp 410) (Code.exit 13) Code.skip) (Exit.then K Q) a w → K2 a w) := hK
    clear hK
    by_cases hl : s.low s.top < s.idx s.par
    · go_quiet (fail)
      refine HK2.out _ _ (wp_cond_true (by kernel_rfl) (wp_exit ?_))
      have hst : HInv x.U s.stay := Inv.out.stay HOk.out hm HQE.out hl
      have hSr : Srch x s.stay S cq c ((M'.put 27 (M'.b 27) (s.m - 1) (M'.cap 27) (M'.F 27)).set 22 s.par (.int .i64 ((min (s.low s.par) (s.low s.top) : Nat) : Int))) (W.drewN nq) := by
        have m := mem.out
        exact ⟨⟨m.sin.rep.drewN nq, m.sin.pm, m.sin.grew.drewN nq, m.sin.loc, m.sin.b33, m.sin.n33, m.sin.f33⟩, m.sr, CqOk.cut HS.out.cqf rfl rfl rfl rfl, HS.out.sq.next hst rfl rfl⟩
      refine HQ.out _ _ (2 * gap x.U s.stay.sc x.U.N + s.stay.m) ⟨by kernel_rfl, by kernel_rfl, by kernel_rfl, by kernel_rfl, by kernel_rfl, by kernel_rfl, by kernel_rfl, by kernel_rfl, by kernel_rfl, by kernel_rfl, by kernel_rfl, by kernel_rfl, by kernel_rfl⟩ ?_ (by show 2 * gap x.U s.sc x.U.N + (s.m - 1) < _; omega)
      exact SRel.run hSr rfl (Eq.trans (by kernel_rfl) V27.out.symm) (by kernel_rfl) (Eq.trans (by kernel_rfl) V23.out.symm) HBD.out
    · go_quiet (fail)
      refine HK2.out _ _ (wp_cond_false (by kernel_rfl) (wp_skip ?_))
      refine HK.out _ _ ?_
      refine HC.out hm (by omega) _ ((M'.put 27 (M'.b 27) (s.m - 1) (M'.cap 27) (M'.F 27)).set 22 s.par (.int .i64 ((min (s.low s.par) (s.low s.top) : Nat) : Int))) _ ⟨by kernel_rfl, by kernel_rfl, by kernel_rfl, by kernel_rfl, by kernel_rfl, by kernel_rfl, by kernel_rfl, by kernel_rfl, by kernel_rfl, by kernel_rfl, by kernel_rfl, by kernel_rfl, by kernel_rfl⟩ (Eq.trans (by kernel_rfl) V27.out.symm) (by kernel_rfl) (Eq.trans (by kernel_rfl) V23.out.symm) (by kernel_rfl) ?_
      have m := mem.out
      exact ⟨⟨m.sin.rep.drewN nq, m.sin.pm, m.sin.grew.drewN nq, m.sin.loc, m.sin.b33, m.sin.n33, m.sin.f33⟩, m.sr⟩
  · have hm1 : s.m = 1 := by omega
    have hsf : Hid (SRel x 0 (.slice (some ⟨g27, 0, none⟩) 0 (M'.cap 27)) (.int .i64 (s.vis : Int)) (M'.val 23) wr) := .inr ⟨s, S, M', _, _, ⟨hS.sin, hS.sq, hm1, hq⟩, rfl, rfl⟩
    rw [if_pos (by omega)] at c1
    clear hQ hC hS cl b27 tt t3 t2 inv hq hBd ok
    rw [hm1] at c1 l27
    rw [hm1]
    refine wp_seq_k (fun K hK => ?_)
    have HK : Hid (∀ (a : Act) (w : World), _ → K a w) := hK
    clear hK
    go_wp2
    refine HK.out _ _ ?_
    clear HK K
    refine wp_seq_k (fun K hK => ?_)
    have HK : Hid (∀ (a : Act) (w : World), _ → K a w) := hK
    clear hK
    go_wp2
    refine HK.out _ _ ?_
    clear HK K
    refine wp_seq_k (fun K hK => ?_)
    have HK : Hid (∀ (a : Act) (w : World), _ → K a w) := hK
    clear hK
    go_wp2
    refine HQ.out _ _ 0 ⟨by kernel_rfl, by kernel_rfl, by kernel_rfl, by kernel_rfl, by kernel_rfl, by kernel_rfl, by kernel_rfl, by kernel_rfl, by kernel_rfl, by kernel_rfl, by kernel_rfl, by kernel_rfl, by kernel_rfl⟩ (SRel.cast hsf.out (by kernel_rfl) (by kernel_rfl) (by kernel_rfl)) (by omega)
end Go.Proofs.Qxb6602148a
