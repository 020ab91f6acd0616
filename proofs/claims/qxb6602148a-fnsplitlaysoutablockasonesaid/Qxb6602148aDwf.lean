import Derived.Test.Qxb6602148aDwe
attribute [local go_sem] Go.Proofs.Qxb6602148a.yTo Go.Proofs.Qxb6602148a.yUpon
namespace Go.Proofs.Qxb6602148a
open Go.RowKit
set_option linter.unusedVariables false
set_option linter.unusedSimpArgs false

set_option maxRecDepth 40000 in
set_option maxHeartbeats 8000000 in
/-- Regions 21 to 25, where the path has no other node. -/
theorem dw_leave1 (x : DX) (v39 : Value) (a : Act) (s : TS) (K : Nat) (ln : Nat → Nat) (ls : Nat → Nat → Nat) (P' : PS) (M' : Fam) (wr : World) (hf : FD x (M'.val 15) v39 a) (h11 : a.tmps.getD 11 undef = .int .i64 (s.top : Int)) (hS : DSt x s K ln ls P' M' wr) (hgo : DGo x.P x.c x.n x.sl) (hm : s.m = 1) (hq : s.sc s.top = x.P.on s.top) (Q : Exit → Act → World → Prop)
    (hC : ∀ (a : Act) (w' : World) (M2 : Fam) (P2 : PS), FD x (M'.val 15) v39 a → a.tmps.getD 11 undef = .int .i64 (s.top : Int) → DIn x.w x.M x.p x.q13 x.q14 ((s.vis : Nat) : Int) w' M2 P2 → DLf x s P' P2 → DKp x K ln ls (M'.val 15) M2 → s.low s.top = s.idx s.top → Code.wp Try.prog (tl 6 (d3 (Try.f28.body.getD .skip))) Q a w') :
    Code.wp Try.prog (tl 3 (d3 (Try.f28.body.getD .skip))) Q a wr := by
  obtain ⟨y, rfl⟩ := litd_11 hf h11
  obtain ⟨jt, jt1, jt2, tS⟩ := hS.top hgo (by omega)
  obtain ⟨kE, kfr, kto, kS, kon, kout, kC⟩ := hS.dr.keeps
  have inv := hS.inv
  have hl : s.low s.top = s.idx s.top := by
    by_cases h : s.low s.top = s.idx s.top
    · exact h
    · have := (inv.stay (by omega) hq h).1; omega
  have nQ : M'.n 10 = 1 := hS.din.pm.cqn.trans (hS.dr.nQ.trans hm)
  obtain ⟨g10, b10⟩ := hS.din.rep.hasBlock (i := 10) (by rw [nQ]; omega)
  have x1 := hS.din.box
  have x2 := hS.din.pm.hdr_some hS.din.rep hS.din.b11 (show 10 < 11 by omega) b10
  rw [nQ] at x2
  have l10 := hS.din.rep.le_cap 10
  have m10 := hS.din.rep.cap_le 10
  rw [nQ] at l10
  simp only [maxLen] at m10
  have f10 := hS.din.rep.frozen hS.din.b11 10
  have hD2 : DIn x.w x.M x.p x.q13 x.q14 ((s.vis : Nat) : Int) ((wr.setCell ⟨x.p, 10, none⟩ (.slice (some ⟨g10, 0, none⟩) 0 (M'.cap 10))).drew) ((M'.put 10 (M'.b 10) 0 (M'.cap 10) (M'.F 10)).set 11 10 (.slice (some ⟨g10, 0, none⟩) 0 (M'.cap 10))) { P' with nQ := 0 } := by
    have h1 := hS.din.pm.cut_cq (n := 0) (by omega) (M'.b 10) (M'.cap 10)
    have h2 : (Option.map (fun g => (⟨g, 0, none⟩ : Addr)) (M'.b 10)) = some ⟨g10, 0, none⟩ := by rw [b10]; rfl
    rw [h2] at h1
    exact (hS.din.cutp (i := 10) (n := 0) (by omega) (by omega) (by omega) h1).drew
  have kp2 : Hid (DKp x K ln ls (M'.val 15) ((M'.put 10 (M'.b 10) 0 (M'.cap 10) (M'.F 10)).set 11 10 (.slice (some ⟨g10, 0, none⟩) 0 (M'.cap 10)))) := (hS.kp.put (by omega)).set (by omega)
  have uP : s.top < ({ P' with nQ := 0 } : PS).nS := by show s.top < P'.nS; rw [kS]; exact tS
  obtain ⟨g3, b3⟩ := hD2.rep.hasBlock (i := 3) (by rw [hD2.pm.nS]; exact Nat.lt_of_le_of_lt (Nat.zero_le _) uP)
  have b10' : ((M'.put 10 (M'.b 10) 0 (M'.cap 10) (M'.F 10)).set 11 10 (.slice (some ⟨g10, 0, none⟩) 0 (M'.cap 10))).b 10 = some g10 := by rw [set_b, put_bs]; exact b10
  have z1 := hD2.box
  have z10 := hD2.pm.hdr_some hD2.rep hD2.b11 (show 10 < 11 by omega) b10'
  have z3 := hD2.pm.hdr_some hD2.rep hD2.b11 (show 3 < 11 by omega) b3
  have hn10 : ((M'.put 10 (M'.b 10) 0 (M'.cap 10) (M'.F 10)).set 11 10 (.slice (some ⟨g10, 0, none⟩) 0 (M'.cap 10))).n 10 = 0 := by rw [set_n, put_ns]
  have hk10 : ((M'.put 10 (M'.b 10) 0 (M'.cap 10) (M'.F 10)).set 11 10 (.slice (some ⟨g10, 0, none⟩) 0 (M'.cap 10))).cap 10 = M'.cap 10 := by show (M'.put 10 (M'.b 10) 0 (M'.cap 10) (M'.F 10)).cap 10 = _; simp [Fam.put]
  rw [hn10, hk10] at z10
  have hn3 : ((M'.put 10 (M'.b 10) 0 (M'.cap 10) (M'.F 10)).set 11 10 (.slice (some ⟨g10, 0, none⟩) 0 (M'.cap 10))).n 3 = x.P.nS := hD2.pm.nS.trans kS
  rw [hn3] at z3
  have l3 := hD2.rep.le_cap 3
  rw [hn3] at l3
  have zl2 := hD2.slot b3 uP (show 4 < 7 by omega) (hD2.pm.low _ uP)
  have zi := hD2.slot b3 uP (show 3 < 7 by omega) (hD2.pm.idx _ uP)
  have el2 : ({ P' with nQ := 0 } : PS).low s.top = ((s.idx s.top : Nat) : Int) := (hS.dr.low (s.m - 1) (by omega)).trans (by show ((s.low s.top : Nat) : Int) = _; rw [hl])
  have eix : ({ P' with nQ := 0 } : PS).idx s.top = ((s.idx s.top : Nat) : Int) := hS.dr.idx s.top tS
  rw [el2] at zl2
  rw [eix] at zi
  have lf : Hid (DLf x s P' { P' with nQ := 0 }) := by
    obtain ⟨q1, q2, q3, q4, q5, q6, q7, e⟩ := hS.dr.eq
    exact ⟨⟨_, _, _, _, _, _, _, by rw [e]⟩, rfl, rfl, fun j hj => by omega, rfl, rfl, by show 0 = s.m - 1; omega, rfl⟩
  have HL : Hid (s.low s.top = s.idx s.top) := hl
  have HD : Hid (DIn x.w x.M x.p x.q13 x.q14 ((s.vis : Nat) : Int) ((wr.setCell ⟨x.p, 10, none⟩ (.slice (some ⟨g10, 0, none⟩) 0 (M'.cap 10))).drew) ((M'.put 10 (M'.b 10) 0 (M'.cap 10) (M'.F 10)).set 11 10 (.slice (some ⟨g10, 0, none⟩) 0 (M'.cap 10))) { P' with nQ := 0 }) := hD2
  have HC : Hid (∀ (a : Act) (w' : World) (M2 : Fam) (P2 : PS), FD x (M'.val 15) v39 a → a.tmps.getD 11 undef = .int .i64 (s.top : Int) → DIn x.w x.M x.p x.q13 x.q14 ((s.vis : Nat) : Int) w' M2 P2 → DLf x s P' P2 → DKp x K ln ls (M'.val 15) M2 → s.low s.top = s.idx s.top → Code.wp Try.prog (tl 6 (d3 (Try.f28.body.getD .skip))) Q a w') := hC
  have lm1 : 1 ≤ M'.cap 10 := by omega
  clear hC hD2 hS hgo inv b10 b3 b10' nQ el2 eix hn10 hk10 hn3 kE kfr kto kS kon kout kC jt1 jt2 hf h11 hq hl hm
  generalize ((M'.put 10 (M'.b 10) 0 (M'.cap 10) (M'.F 10)).set 11 10 (.slice (some ⟨g10, 0, none⟩) 0 (M'.cap 10))).cap 3 = k3 at *
  generalize M'.cap 10 = k10 at *
  show Code.wp Try.prog (Code.seq _ (Code.seq (Code.seq _ (Code.cond (.tmp 185) (Code.seq _ _) Code.skip)) (Code.seq (Code.seq _ (Code.cond (.tmp 239) (Code.exit 3) Code.skip)) (tl 6 (d3 (Try.f28.body.getD .skip)))))) Q _ wr
  refine wp_seq_k (fun K1 hK => ?_)
  have HK : Hid (∀ (a : Act) (w : World), _ → K1 a w) := hK
  clear hK
  have FK : Hid (∀ k w', k ≤ 0 → C1 wr.drew ((wr.setCell ⟨x.p, 10, none⟩ (.slice (some ⟨g10, 0, none⟩) 0 k10)).drew) k w' → w' = wr.drew) := by
    intro k w' hk hw
    have hk : k = 0 := by omega
    subst hk
    exact hw
  refine wp_region_stage (C1 wr.drew ((wr.setCell ⟨x.p, 10, none⟩ (.slice (some ⟨g10, 0, none⟩) 0 k10)).drew)) [14] (fun i => 0) (by kernel_rfl) (by kernel_rfl) (rfl) ?_
  refine wpStage_read rfl rfl ?_
  apply Exists.intro
  refine ⟨fun k w' hk hw => ?_, ?_⟩
  · have hw0 := FK.out k w' hk hw
    subst hw0
    go_simp
    first | rfl | exact ⟨rfl, hw⟩
  go_simp
  refine wpStage_read rfl rfl ?_
  apply Exists.intro
  refine ⟨fun k w' hk hw => ?_, ?_⟩
  · have hw0 := FK.out k w' hk hw
    subst hw0
    go_simp
    first | rfl | exact ⟨rfl, hw⟩
  go_simp
  refine wpStage_read rfl rfl ?_
  apply Exists.intro
  refine ⟨fun k w' hk hw => ?_, ?_⟩
  · go_simp
    first | rfl | exact ⟨rfl, hw⟩
  go_simp
  refine wpStage_read rfl rfl ?_
  apply Exists.intro
  refine ⟨fun k w' hk hw => ?_, ?_⟩
  · go_simp
    first | rfl | exact ⟨rfl, hw⟩
  go_simp
  refine wpStage_read rfl rfl ?_
  apply Exists.intro
  refine ⟨fun k w' hk hw => ?_, ?_⟩
  · have hw0 := FK.out k w' hk hw
    subst hw0
    go_simp
    first | rfl | exact ⟨rfl, hw⟩
  go_simp
  refine wpStage_read rfl rfl ?_
  apply Exists.intro
  refine ⟨fun k w' hk hw => ?_, ?_⟩
  · have hw0 := FK.out k w' hk hw
    subst hw0
    go_simp
    first | rfl | exact ⟨rfl, hw⟩
  go_simp
  refine wpStage_read rfl rfl ?_
  apply Exists.intro
  refine ⟨fun k w' hk hw => ?_, ?_⟩
  · go_simp
    first | rfl | exact ⟨rfl, hw⟩
  go_simp
  refine wpStage_read rfl rfl ?_
  apply Exists.intro
  refine ⟨fun k w' hk hw => ?_, ?_⟩
  · go_simp
    first | rfl | exact ⟨rfl, hw⟩
  go_simp
  refine wpStage_read rfl rfl ?_
  apply Exists.intro
  refine ⟨fun k w' hk hw => ?_, ?_⟩
  · have hw0 := FK.out k w' hk hw
    subst hw0
    go_simp
    first | rfl | exact ⟨rfl, hw⟩
  go_simp
  refine wpStage_read rfl rfl ?_
  apply Exists.intro
  refine ⟨fun k w' hk hw => ?_, ?_⟩
  · go_simp
    first | rfl | exact ⟨rfl, hw⟩
  go_simp
  refine wpStage_read rfl rfl ?_
  apply Exists.intro
  refine ⟨fun k w' hk hw => ?_, ?_⟩
  · go_simp
    first | rfl | exact ⟨rfl, hw⟩
  go_simp
  refine wpStage_read rfl rfl ?_
  apply Exists.intro
  refine ⟨fun k w' hk hw => ?_, ?_⟩
  · go_simp
    first | rfl | exact ⟨rfl, hw⟩
  go_simp
  refine wpStage_read rfl rfl ?_
  apply Exists.intro
  refine ⟨fun k w' hk hw => ?_, ?_⟩
  · go_simp
    first | rfl | exact ⟨rfl, hw⟩
  go_simp
  refine wpStage_read rfl rfl ?_
  apply Exists.intro
  refine ⟨fun k w' hk hw => ?_, ?_⟩
  · go_simp
    first | rfl | exact ⟨rfl, hw⟩
  go_simp
  refine wpStage_move rfl rfl ?_
  apply Exists.intro
  refine ⟨fun w' hw => ?_, ?_⟩
  · have hw : w' = wr.drew := hw
    subst hw
    go_simp
    first | rfl | exact ⟨rfl, rfl⟩
  go_simp
  intro w' hw0
  have hw : w' = ((wr.setCell ⟨x.p, 10, none⟩ (.slice (some ⟨g10, 0, none⟩) 0 k10)).drew) := hw0
  clear hw0
  refine HK.out _ _ ?_
  clear HK K1 FK x1 x2
  subst hw
  generalize ((wr.setCell ⟨x.p, 10, none⟩ (.slice (some ⟨g10, 0, none⟩) 0 k10)).drew) = wb at *
  refine wp_seq_k (fun K1 hK => ?_)
  have HK : Hid (∀ (a : Act) (w : World), _ → K1 a w) := hK
  clear hK
  refine wp_seq_k (fun K2 hK => ?_)
  have HK2 : Hid (∀ (a : Act) (w : World), _ → K2 a w) := hK
  clear hK
  go_wp2
  refine HK2.out _ _ (wp_cond_false (by kernel_rfl) (wp_skip ?_))
  refine HK.out _ _ ?_
  clear HK2 K2 HK K1
  refine wp_seq_k (fun K1 hK => ?_)
  have HK : Hid (∀ (a : Act) (w : World), _ → K1 a w) := hK
  clear hK
  refine wp_seq_k (fun K2 hK => ?_)
  have HK2 : Hid (∀ (a : Act) (w : World), _ → K2 a w) := hK
  clear hK
  go_quiet (fail)
  refine HK2.out _ _ (wp_cond_false (by kernel_rfl) (wp_skip ?_))
  refine HK.out _ _ ?_
  exact HC.out _ _ _ _ ⟨by kernel_rfl, by kernel_rfl, by kernel_rfl, by kernel_rfl, by kernel_rfl, by kernel_rfl, by kernel_rfl, by kernel_rfl, by kernel_rfl, by kernel_rfl, by kernel_rfl⟩ (by kernel_rfl) (HD.out.drewN _) lf.out kp2.out HL.out

/-- Where the path's end stands on the stack. -/
structure FP (x : DX) (v7 v39 : Value) (u : Nat) (a : Act) : Prop where
  fd : FD x v7 v39 a
  s11 : a.tmps.getD 11 undef = .int .i64 (u : Int)

def P1I (x : DX) (v7 v39 : Value) (s : TS) (wr : World) (a : Act) (w : World) : Prop := w = wr ∧ FD x v7 v39 a ∧ a.tmps.getD 11 undef = .int .i64 (s.top : Int) ∧ ∃ i : Nat, a.tmps.getD 14 undef = .int .i64 (i : Int) ∧ s.sp (s.m - 1) ≤ i ∧ i < s.h
def mu14 (a : Act) : Nat := (intOf (a.tmps.getD 14 undef)).toNat

set_option maxRecDepth 40000 in
set_option maxHeartbeats 8000000 in
/-- Region 26 and the loop behind it: where the path's end stands on the stack. -/
theorem dw_pop1 (x : DX) (v7 v39 : Value) (a : Act) (s : TS) (K : Nat) (ln : Nat → Nat) (ls : Nat → Nat → Nat) (P' P2 : PS) (M' M2 : Fam) (w0 wr : World) (hf : FD x v7 v39 a) (h11 : a.tmps.getD 11 undef = .int .i64 (s.top : Int)) (hS : DSt x s K ln ls P' M' w0) (hm : 0 < s.m) (hv : s.vis ≤ 99999990) (hD : DIn x.w x.M x.p x.q13 x.q14 ((s.vis : Nat) : Int) wr M2 P2) (lf : DLf x s P' P2) (Q : Exit → Act → World → Prop)
    (hC : ∀ (a : Act), FD x v7 v39 a → a.tmps.getD 11 undef = .int .i64 (s.top : Int) → a.tmps.getD 14 undef = .int .i64 ((s.sp (s.m - 1) : Nat) : Int) → Code.wp Try.prog (tl 8 (d3 (Try.f28.body.getD .skip))) Q a wr) :
    Code.wp Try.prog (tl 6 (d3 (Try.f28.body.getD .skip))) Q a wr := by
  have inv := hS.inv
  obtain ⟨t1, t2, t3, t4, t5⟩ := inv.topf hm
  have hh := inv.h_le
  have n9 : M2.n 9 = s.h := hD.pm.stk.1.trans (lf.nK.trans hS.dr.nK)
  obtain ⟨g9, b9⟩ := hD.rep.hasBlock (i := 9) (by rw [n9]; omega)
  have x1 := hD.box
  have x2 := hD.pm.hdr_some hD.rep hD.b11 (show 9 < 11 by omega) b9
  rw [n9] at x2
  have l9 := hD.rep.le_cap 9
  rw [n9] at l9
  have xs : Hid (∀ i, i < s.h → wr.cell? ⟨g9, i, none⟩ = some (.int .i64 ((s.st i : Nat) : Int))) := by
    intro i hi
    have := hD.pm.stk.cell hD.rep b9 rfl (show i < P2.nK by rw [lf.nK, hS.dr.nK]; exact hi)
    rw [lf.stk, hS.dr.stk i hi] at this
    exact this
  have inj : Hid (∀ i, i < s.h → s.sp (s.m - 1) < i → s.st i ≠ s.top) := by
    intro i hi hlt e
    have := inv.st_inj hi t1 (e.trans t2.symm)
    omega
  have HT2 : Hid (s.st (s.sp (s.m - 1)) = s.top) := t2
  have HC : Hid (∀ (a : Act), FD x v7 v39 a → a.tmps.getD 11 undef = .int .i64 (s.top : Int) → a.tmps.getD 14 undef = .int .i64 ((s.sp (s.m - 1) : Nat) : Int) → Code.wp Try.prog (tl 8 (d3 (Try.f28.body.getD .skip))) Q a wr) := hC
  obtain ⟨y, rfl⟩ := litd_11 hf h11
  have hh1 : ((s.h : Nat) : Int) - 1 = ((s.h - 1 : Nat) : Int) := by omega
  clear hC hD hS lf inv b9 n9 t2 t3 t4 t5 hf h11
  generalize M2.cap 9 = k9 at *
  show Code.wp Try.prog (Code.seq _ (Code.seq (Code.block 5 (Code.loop (Code.seq (Code.seq _ (Code.cond (.tmp 254) Code.skip (Code.exit 5))) (Code.block 6 _)))) (tl 8 (d3 (Try.f28.body.getD .skip))))) Q _ wr
  refine wp_seq_k (fun K1 hK => ?_)
  have HK : Hid (∀ (a : Act) (w : World), _ → K1 a w) := hK
  clear hK
  go_wp2
  refine HK.out _ _ ?_
  clear HK K1
  refine wp_seq_k (fun K1 hK => ?_)
  have HK : Hid (∀ (a : Act) (w : World), _ → K1 a w) := hK
  clear hK
  refine wp_block ?_
  refine wp_loop (P1I x v7 v39 s wr) (fun a _ => mu14 a) ⟨rfl, ⟨by kernel_rfl, by kernel_rfl, by kernel_rfl, by kernel_rfl, by kernel_rfl, by kernel_rfl, by kernel_rfl, by kernel_rfl, by kernel_rfl, by kernel_rfl, by kernel_rfl⟩, by kernel_rfl, s.h - 1, by kernel_rfl, by omega, by omega⟩ ?_
  rintro a w ⟨rfl, hf, h11, i, h14, i1, i2⟩
  obtain ⟨y2, rfl⟩ := litd_11_14 hf h11 h14
  have xi := xs.out i i2
  have e14 : mu14 _ = i := congrArg (fun v => (intOf v).toNat) h14
  rw [e14]
  clear hf h11 h14
  refine wp_seq_k (fun K3 hK => ?_)
  have HK3 : Hid (∀ (a : Act) (w : World), _ → K3 a w) := hK
  clear hK
  refine wp_seq_k (fun K4 hK => ?_)
  have HK4 : Hid (∀ (a : Act) (w : World), _ → K4 a w) := hK
  clear hK
  by_cases hi : i = s.sp (s.m - 1)
  · subst hi
    rw [HT2.out] at xi
    go_wp2
    refine HK4.out _ _ (wp_cond_false (by kernel_rfl) (wp_exit ?_))
    refine HK.out _ _ ?_
    exact HC.out _ ⟨by kernel_rfl, by kernel_rfl, by kernel_rfl, by kernel_rfl, by kernel_rfl, by kernel_rfl, by kernel_rfl, by kernel_rfl, by kernel_rfl, by kernel_rfl, by kernel_rfl⟩ (by kernel_rfl) (by kernel_rfl)
  · have hne := inj.out i i2 (by omega)
    have hne0 : ¬ ((s.st i : Nat) : Int) = ((s.top : Nat) : Int) := by omega
    have hne1 : (((s.st i : Nat) : Int) == ((s.top : Nat) : Int)) = false := by simpa using hne0
    have hne2 : (((s.st i : Nat) : Int) != ((s.top : Nat) : Int)) = true := by simpa using hne0
    have him : (i : Int) - 1 = ((i - 1 : Nat) : Int) := by omega
    clear hne hne0
    go_wp2
    refine HK4.out _ _ (wp_cond_true (by kernel_rfl) (wp_skip ?_))
    refine HK3.out _ _ ?_
    clear HK3 K3 HK4 K4
    refine wp_block ?_
    go_wp2
    exact ⟨⟨rfl, ⟨by kernel_rfl, by kernel_rfl, by kernel_rfl, by kernel_rfl, by kernel_rfl, by kernel_rfl, by kernel_rfl, by kernel_rfl, by kernel_rfl, by kernel_rfl, by kernel_rfl⟩, by kernel_rfl, i - 1, by kernel_rfl, by omega, by omega⟩, Nat.lt_of_le_of_lt (Nat.le_of_eq (by kernel_rfl : _ = i - 1)) (by omega)⟩
end Go.Proofs.Qxb6602148a
