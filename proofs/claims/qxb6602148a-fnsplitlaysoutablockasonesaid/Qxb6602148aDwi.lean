import Derived.Test.Qxb6602148aDwh
attribute [local go_sem] Go.Proofs.Qxb6602148a.yTo Go.Proofs.Qxb6602148a.yUpon
namespace Go.Proofs.Qxb6602148a
open Go.RowKit
set_option linter.unusedVariables false
set_option linter.unusedSimpArgs false

section
variable {x : DX} {ri : Nat} {s : TS} {K : Nat} {ln : Nat → Nat} {ls : Nat → Nat → Nat} {lk : Nat → Nat} {P' P2 P3 : PS} {M' M6 : Fam} {w0 w' : World}

theorem DPl.vis_le (h : DPl x ri s K ln ls lk) (hn : x.n ≤ 4096) (hr : ri ≤ x.n) : s.vis ≤ 16781312 := by
  have := h.bd
  omega
/-- A component has been found: the state behind it. -/
theorem DSt.pop (h : DSt x s K ln ls P' M' w0) (hp : DPl x ri s K ln ls lk) (hm : 0 < s.m) (hq : s.sc s.top = x.P.on s.top) (hl : s.low s.top = s.idx s.top) (lf : DLf x s P' P2) (pd : DPd s P2 (s.h - s.sp (s.m - 1)) P3) {K' : Nat} {ln' : Nat → Nat} {ls' : Nat → Nat → Nat} {v7 : Value} (hD : DIn x.w x.M x.p x.q13 x.q14 ((s.vis : Nat) : Int) w' M6 { P3 with nK := s.sp (s.m - 1) }) (kp : DKp x K' ln' ls' v7 M6) (hmo : More s K ln ls K' ln' ls') :
    DRel x ri (2 * dgap x.P x.sl s.sc x.n + (s.m - 1)) v7 w' := by
  have inv := h.inv
  obtain ⟨t1, t2, t3, t4, t5⟩ := inv.topf hm
  obtain ⟨q1, q2, q3, q4, q5, q6, q7, e2⟩ := lf.eq
  obtain ⟨cm, ix, e3⟩ := pd.eq
  have hsum : s.sp (s.m - 1) + (s.h - s.sp (s.m - 1)) = s.h := by omega
  have dr : DR x.P x.c s.out { P3 with nK := s.sp (s.m - 1) } := by
    refine h.dr.out hm ⟨_, _, _, _, _, _, _, by rw [e3, e2]⟩ (fun i h1 h2 => pd.c1 i h1 (by omega)) (fun v hv => ?_) (fun j hj => ?_) rfl (fun i hi => ?_) (by omega) ?_ (fun j => ?_)
    · have := pd.c2 v (fun i h1 h2 => hv i h1 (by omega))
      rw [lf.comp, lf.idx] at this
      exact this
    · show P3.low (s.nd j) = _
      have : P3.low = P2.low := by rw [e3]
      rw [this]; exact lf.low j hj
    · show P3.stk i = _
      have : P3.stk = P2.stk := by rw [e3]
      rw [this, lf.stk]
    · show P3.nQ = _
      have : P3.nQ = P2.nQ := by rw [e3]
      rw [this]; exact lf.nQ
    · show P3.cq j = _
      have : P3.cq = P2.cq := by rw [e3]
      rw [this, lf.cq]
  have hinv := inv.out hm hq hl
  have hcov : ∀ j, j < ri → s.out.lab (x.sl j) ≠ 0 ∨ s.out.idx (x.sl j) ≠ 0 := by
    intro j hj
    show (if s.hang (x.sl j) then s.nl + 1 else s.lab (x.sl j)) ≠ 0 ∨ (if s.hang (x.sl j) then 0 else s.idx (x.sl j)) ≠ 0
    cases hb : s.hang (x.sl j) with
    | true => left; simp
    | false => simpa using hp.cov j hj
  have hkb : K' + (s.m - 1) ≤ s.vis := by
    have := hp.kb
    rcases hmo with ⟨_, h2, _⟩ | ⟨_, h2, _⟩ <;> omega
  rcases hmo with ⟨h1, h2, h3, h4⟩ | ⟨h1, h2, h3, h4⟩
  · subst h2 h3 h4
    exact ⟨s.out, _, _, _, lk, _, M6, ⟨hD, dr, hinv, kp.r12, kp.st⟩, ⟨hp.li.one inv h1, hp.bd, hcov, hkb, hp.scb⟩, kp.v15, rfl⟩
  · subst h2 h3 h4
    exact ⟨s.out, _, _, _, _, _, M6, ⟨hD, dr, hinv, kp.r12, kp.st⟩, ⟨hp.li.more inv h1, hp.bd, hcov, hkb, hp.scb⟩, kp.v15, rfl⟩
end

/-- A round of the search. -/
theorem dw_round (x : DX) (v39 : Value) (a : Act) (s : TS) (K : Nat) (ln : Nat → Nat) (ls : Nat → Nat → Nat) (lk : Nat → Nat) (P' : PS) (M' : Fam) (wr : World) (ri : Nat) (hri : ri ≤ x.n) (hf : FD x (M'.val 15) v39 a) (hS : DSt x s K ln ls P' M' wr) (hPl : DPl x ri s K ln ls lk) (hgo : DGo x.P x.c x.n x.sl) (hm : 0 < s.m) (Q : Exit → Act → World → Prop) (hQ1 : DNext x ri s v39 (Q (.exit 3))) (hQ2 : DNext x ri s v39 (Q .normal)) :
    Code.wp Try.prog (d3 (Try.f28.body.getD .skip)) Q a wr := by
  have hv := hPl.vis_le hgo.n1 hri
  obtain ⟨jt, jt1, jt2, tS⟩ := hS.top hgo hm
  refine dw_head x (M'.val 15) v39 a hf s K ln ls P' M' wr hS hgo hm (by omega) Q ?_ ?_
  · intro K1 a w' g10 hf hS b10 h10 h11 hq
    obtain ⟨e, t, hE⟩ := hS.edg hgo hm hq
    refine dw_edge1 x (M'.val 15) v39 a g10 s hf h10 h11 K ln ls P' M' w' hS hgo hm (by omega) b10 hq e t hE (Exit.then K1 Q) ?_
    intro a w2 hf h11 h12 hD
    exact dw_edge2 x v39 a s K ln ls lk P' M' w' w2 ri e t hf h11 h12 hS hPl hgo hm (by omega) hq hE hD (Exit.then K1 Q) hQ1
  · intro a w' hf hS h11 hq
    have hq' : s.sc s.top = x.P.on s.top := by
      have := hPl.scb jt jt1
      rw [jt2] at this
      omega
    have rest : ∀ (a : Act) (w' : World) (M2 : Fam) (P2 : PS), FD x (M'.val 15) v39 a → a.tmps.getD 11 undef = .int .i64 (s.top : Int) → DIn x.w x.M x.p x.q13 x.q14 ((s.vis : Nat) : Int) w' M2 P2 → DLf x s P' P2 → DKp x K ln ls (M'.val 15) M2 → s.low s.top = s.idx s.top → Code.wp Try.prog (tl 6 (d3 (Try.f28.body.getD .skip))) Q a w' := by
      intro a w2 M2 P2 hf h11 hD lf kp hl
      obtain ⟨t1, t2, t3, t4, t5⟩ := hS.inv.topf hm
      have hh := hS.inv.h_le
      refine dw_pop1 x (M'.val 15) v39 a s K ln ls P' P2 M' M2 w' w2 hf h11 hS hm (by omega) hD lf Q ?_
      intro a hf h11 h14
      refine dw_pop2 x (M'.val 15) v39 a s K ln ls P' P2 M' M2 w' w2 hf h11 h14 hS hgo hm (by omega) hD lf kp Q ?_
      intro a w3 M3 P3 hf h11 h14 hD3 pd kp3
      obtain ⟨cm, ix, e3⟩ := pd.eq
      have nK3 : P3.nK = s.h := by rw [e3]; exact lf.nK.trans hS.dr.nK
      have stk3 : ∀ i, i < s.h → P3.stk i = ((s.st i : Nat) : Int) := fun i hi => by rw [e3]; show P2.stk i = _; rw [lf.stk]; exact hS.dr.stk i hi
      have hkb := hPl.kb
      refine dw_pop3a x (M'.val 15) v39 a s K ln ls P3 M3 w3 hf h14 t1 (by omega) (by omega) hD3 nK3 stk3 kp3 Q ?_
      intro a w4 K' ln' ls' v7' M5 hf h14 hD5 kp5 hmo
      refine dw_pop3b x v7' v39 a s K' ln' ls' P3 M5 w4 hf h14 t1 (by omega) hD5 nK3 kp5 Q ?_
      intro a w5 M6 hf hD6 kp6
      exact hQ2 a w5 v7' _ hf (hS.pop hPl hm hq' hl lf pd hD6 kp6 hmo) (by omega)
    by_cases hm2 : 2 ≤ s.m
    · exact dw_leave2 x v39 a s K ln ls lk P' M' w' ri hf h11 hS hPl hgo hm2 (by omega) hq' Q hQ1 rest
    · exact dw_leave1 x v39 a s K ln ls P' M' w' hf h11 hS hgo (by omega) hq' Q rest

/-- The search from a root is done. -/
def DDone (x : DX) (ri : Nat) (v7 : Value) (wr : World) : Prop := ∃ s K ln ls lk P' M', DSt x s K ln ls P' M' wr ∧ DPl x ri s K ln ls lk ∧ v7 = M'.val 15 ∧ s.m = 0

set_option maxRecDepth 40000 in
set_option maxHeartbeats 8000000 in
/-- The search from a root. -/
theorem dw_inner (x : DX) (v7 v39 : Value) (a : Act) (wr : World) (ri n : Nat) (hri : ri ≤ x.n) (hf : FD x v7 v39 a) (hrel : DRel x ri n v7 wr) (hgo : DGo x.P x.c x.n x.sl) (Q : Exit → Act → World → Prop) (hK : ∀ (a : Act) (w' : World) (v7 : Value), FD x v7 v39 a → DDone x ri v7 w' → Q .normal a w') :
    Code.wp Try.prog (dIL (Try.f28.body.getD .skip)) Q a wr := by
  obtain ⟨mz, hmz⟩ := least3 (fun n v7 _ _ w => DRel x ri n v7 w)
  show Code.wp Try.prog (Code.block 2 (Code.loop (Code.seq (Code.seq _ (Code.cond (.tmp 61) Code.skip (Code.exit 2))) (Code.block 3 (d3 (Try.f28.body.getD .skip)))))) Q a wr
  refine wp_block ?_
  refine wp_loop (fun a w => ∃ v7 n, FD x v7 v39 a ∧ DRel x ri n v7 w) (fun a w => mz (a.tmps.getD 7 undef) undef undef w) ⟨v7, n, hf, hrel⟩ ?_
  clear hf hrel
  rintro a wr ⟨v7, n, hf, hrel⟩
  have h7 := hf.s7
  obtain ⟨hr, hmin⟩ := hmz v7 undef undef wr ⟨n, hrel⟩
  have hdec : ∀ (n : Nat) (a' : Act) (w' : World) (v7' : Value), FD x v7' v39 a' → DRel x ri n v7' w' → n < mz (a.tmps.getD 7 undef) undef undef wr → (∃ v7 n, FD x v7 v39 a' ∧ DRel x ri n v7 w') ∧ mz (a'.tmps.getD 7 undef) undef undef w' < mz (a.tmps.getD 7 undef) undef undef wr := by
    intro n a' w' v7' h1 h2 h3
    have h4 := (hmz v7' undef undef w' ⟨n, h2⟩).2 n h2
    rw [h1.s7]
    exact ⟨⟨v7', n, h1, h2⟩, by omega⟩
  rw [h7] at hdec ⊢
  clear hmin hrel
  obtain ⟨s, K, ln, ls, lk, P', M', hS, hPl, rfl, hn⟩ := hr
  rw [hn] at hdec
  have nQ : M'.n 10 = s.m := hS.din.pm.cqn.trans hS.dr.nQ
  have x1 := hS.din.box
  have x2 := hS.din.pm.hdr hS.din.rep hS.din.b11 (show 10 < 11 by omega)
  unfold Fam.val at x2
  rw [nQ] at x2
  rw [hn]
  have HDec : Hid (∀ (n_1 : Nat) (a' : Act) (w' : World) (v7' : Value), FD x v7' v39 a' → DRel x ri n_1 v7' w' → n_1 < 2 * dgap x.P x.sl s.sc x.n + s.m → (∃ v7 n, FD x v7 v39 a' ∧ DRel x ri n v7 w') ∧ mz (a'.tmps.getD 7 undef) undef undef w' < 2 * dgap x.P x.sl s.sc x.n + s.m) := hdec
  have HS : Hid (DSt x s K ln ls P' M' wr) := hS
  have HP : Hid (DPl x ri s K ln ls lk) := hPl
  have HG : Hid (DGo x.P x.c x.n x.sl) := hgo
  have HKK : Hid (∀ (a : Act) (w' : World) (v7 : Value), FD x v7 v39 a → DDone x ri v7 w' → Q .normal a w') := hK
  have hvl := hPl.vis_le hgo.n1 hri
  have mh := hS.inv.m_le
  have hh := hS.inv.h_le
  obtain ⟨y, rfl⟩ := litd hf
  clear hdec hS hPl hgo nQ h7 hn hK hmz hf
  generalize Option.map (fun g => (⟨g, 0, none⟩ : Addr)) (M'.b 10) = a10 at *
  generalize M'.cap 10 = k10 at *
  refine wp_seq_k (fun K1 hK => ?_)
  have HK : Hid (∀ (a : Act) (w : World), _ → K1 a w) := hK
  clear hK
  refine wp_seq_k (fun K2 hK => ?_)
  have HK2 : Hid (∀ (a : Act) (w : World), _ → K2 a w) := hK
  clear hK
  by_cases hm : 0 < s.m
  · have hmi : (0 : Int) < (s.m : Int) := by omega
    go_wp2
    refine HK2.out _ _ (wp_cond_true (by kernel_rfl) (wp_skip ?_))
    refine HK.out _ _ ?_
    refine wp_block ?_
    exact dw_round x v39 _ s K ln ls lk P' M' wr ri hri ⟨by kernel_rfl, by kernel_rfl, by kernel_rfl, by kernel_rfl, by kernel_rfl, by kernel_rfl, by kernel_rfl, by kernel_rfl, by kernel_rfl, by kernel_rfl, by kernel_rfl⟩ HS.out HP.out HG.out hm _ (fun a' w' v7 n f r lt => HDec.out n a' w' v7 f r lt) (fun a' w' v7 n f r lt => HDec.out n a' w' v7 f r lt)
  · have hm0 : s.m = 0 := by omega
    have hmi : ¬ (0 : Int) < (s.m : Int) := by omega
    rw [hm0] at x2
    go_wp2
    refine HK2.out _ _ (wp_cond_false (by kernel_rfl) (wp_exit ?_))
    exact HKK.out _ _ _ ⟨by kernel_rfl, by kernel_rfl, by kernel_rfl, by kernel_rfl, by kernel_rfl, by kernel_rfl, by kernel_rfl, by kernel_rfl, by kernel_rfl, by kernel_rfl, by kernel_rfl⟩ ⟨s, K, ln, ls, lk, P', M', HS.out, HP.out, rfl, hm0⟩
end Go.Proofs.Qxb6602148a
