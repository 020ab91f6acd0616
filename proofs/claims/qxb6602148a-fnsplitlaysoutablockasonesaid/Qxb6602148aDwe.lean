import Derived.Test.Qxb6602148aDwd
attribute [local go_sem] Go.Proofs.Qxb6602148a.yTo Go.Proofs.Qxb6602148a.yUpon
namespace Go.Proofs.Qxb6602148a
open Go.RowKit
set_option linter.unusedVariables false
set_option linter.unusedSimpArgs false

/-- A list of the partition is cut: its header is written. -/
theorem DIn.cutp {w wr : World} {M M' : Fam} {p q13 q14 : Nat} {vis : Int} {P' P'' : PS} (h : DIn w M p q13 q14 vis wr M' P') {i n : Nat} (hi : i < 11) (h12 : i ≠ 1 ∧ i ≠ 2) (hn : n ≤ M'.n i) {v : Value} (hp : PM ((M'.put i (M'.b i) n (M'.cap i) (M'.F i)).set 11 i v) P'') :
    DIn w M p q13 q14 vis (wr.setCell ⟨p, i, none⟩ v) ((M'.put i (M'.b i) n (M'.cap i) (M'.F i)).set 11 i v) P'' := by
  have b11 : (M'.put i (M'.b i) n (M'.cap i) (M'.F i)).b 11 = some p := (put_b (by omega)).trans h.b11
  refine ⟨(h.rep.shrink i hn).set b11 i _, hp, (h.grew.put (.inl rfl)).set ⟨11, b11⟩ _ _ _ _, (h.loc.put (.inl (by unfold Own; omega)) (by omega)).set (.inl (by unfold Own; omega)), b11, ?_, ?_, ?_, ?_, ?_⟩
  · show (M'.put i (M'.b i) n (M'.cap i) (M'.F i)).b 13 = _; rw [put_b (by omega)]; exact h.b13
  · show (M'.put i (M'.b i) n (M'.cap i) (M'.F i)).n 13 = _; rw [put_n (by omega)]; exact h.n13
  · rw [set_F _ (by omega), put_F (by omega)]; exact h.f13
  · show (M'.put i (M'.b i) n (M'.cap i) (M'.F i)).b 14 = _; rw [put_b (by omega)]; exact h.b14
  · exact (h.i14.put_ne (by omega)).set_ne (by omega)

/-- What stays beside the partition. -/
structure DKp (x : DX) (K : Nat) (ln : Nat → Nat) (ls : Nat → Nat → Nat) (v7 : Value) (M2 : Fam) : Prop where
  r12 : M2.val 12 = .slice x.a12 x.n x.k12 ∧ Ints M2 12 x.n (fun j => ((x.sl j : Nat) : Int))
  st : Strong M2 K ln ls
  v15 : v7 = M2.val 15
theorem DSt.kp {x : DX} {s : TS} {K : Nat} {ln : Nat → Nat} {ls : Nat → Nat → Nat} {P' : PS} {M' : Fam} {wr : World} (h : DSt x s K ln ls P' M' wr) : DKp x K ln ls (M'.val 15) M' := ⟨h.r12, h.st, rfl⟩
theorem DKp.set {x : DX} {K : Nat} {ln : Nat → Nat} {ls : Nat → Nat → Nat} {v7 : Value} {M2 : Fam} (h : DKp x K ln ls v7 M2) {i j : Nat} {v : Value} (hi : i < 12) : DKp x K ln ls v7 (M2.set i j v) := ⟨⟨h.r12.1, h.r12.2.set_ne (by omega)⟩, h.st.set hi, h.v15⟩
theorem DKp.put {x : DX} {K : Nat} {ln : Nat → Nat} {ls : Nat → Nat → Nat} {v7 : Value} {M2 : Fam} (h : DKp x K ln ls v7 M2) {i n cap : Nat} {b : Option Nat} {F : Nat → Value} (hi : i < 12) : DKp x K ln ls v7 (M2.put i b n cap F) := ⟨⟨(put_val (by omega)).trans h.r12.1, h.r12.2.put_ne (by omega)⟩, h.st.put hi, h.v15.trans (put_val (by omega)).symm⟩

/-- The path's end has been left. -/
structure DLf (x : DX) (s : TS) (P' P2 : PS) : Prop where
  eq : ∃ comp idx low nK stk nQ cq, P2 = { x.P with mn := upn x.P.mn x.c 0, comp := comp, idx := idx, low := low, nK := nK, stk := stk, nQ := nQ, cq := cq }
  comp : P2.comp = P'.comp
  idx : P2.idx = P'.idx
  low : ∀ j, j + 1 < s.m → P2.low (s.nd j) = ((s.low (s.nd j) : Nat) : Int)
  nK : P2.nK = P'.nK
  stk : P2.stk = P'.stk
  nQ : P2.nQ = s.m - 1
  cq : P2.cq = P'.cq

theorem DPl.stay {x : DX} {ri : Nat} {s : TS} {K : Nat} {ln : Nat → Nat} {ls : Nat → Nat → Nat} {lk : Nat → Nat} (h : DPl x ri s K ln ls lk) : DPl x ri s.stay K ln ls lk :=
  ⟨h.li.same rfl rfl, h.bd, h.cov, by show K + (s.m - 1) ≤ s.vis; have := h.kb; omega, h.scb⟩

set_option maxRecDepth 40000 in
set_option maxHeartbeats 8000000 in
/-- Regions 21 to 25, where the path has another node. -/
theorem dw_leave2 (x : DX) (v39 : Value) (a : Act) (s : TS) (K : Nat) (ln : Nat → Nat) (ls : Nat → Nat → Nat) (lk : Nat → Nat) (P' : PS) (M' : Fam) (wr : World) (ri : Nat) (hf : FD x (M'.val 15) v39 a) (h11 : a.tmps.getD 11 undef = .int .i64 (s.top : Int)) (hS : DSt x s K ln ls P' M' wr) (hPl : DPl x ri s K ln ls lk) (hgo : DGo x.P x.c x.n x.sl) (hm : 2 ≤ s.m) (hv : s.vis ≤ 99999990) (hq : s.sc s.top = x.P.on s.top) (Q : Exit → Act → World → Prop) (hQ : DNext x ri s v39 (Q (.exit 3)))
    (hC : ∀ (a : Act) (w' : World) (M2 : Fam) (P2 : PS), FD x (M'.val 15) v39 a → a.tmps.getD 11 undef = .int .i64 (s.top : Int) → DIn x.w x.M x.p x.q13 x.q14 ((s.vis : Nat) : Int) w' M2 P2 → DLf x s P' P2 → DKp x K ln ls (M'.val 15) M2 → s.low s.top = s.idx s.top → Code.wp Try.prog (tl 6 (d3 (Try.f28.body.getD .skip))) Q a w') :
    Code.wp Try.prog (tl 3 (d3 (Try.f28.body.getD .skip))) Q a wr := by
  obtain ⟨y, rfl⟩ := litd_11 hf h11
  obtain ⟨jt, jt1, jt2, tS⟩ := hS.top hgo (by omega)
  obtain ⟨kE, kfr, kto, kS, kon, kout, kC⟩ := hS.dr.keeps
  have inv := hS.inv
  have mh := inv.m_le
  have hh := inv.h_le
  have nQ : M'.n 10 = s.m := hS.din.pm.cqn.trans hS.dr.nQ
  obtain ⟨g10, b10⟩ := hS.din.rep.hasBlock (i := 10) (by rw [nQ]; omega)
  have x1 := hS.din.box
  have x2 := hS.din.pm.hdr_some hS.din.rep hS.din.b11 (show 10 < 11 by omega) b10
  rw [nQ] at x2
  have l10 := hS.din.rep.le_cap 10
  have m10 := hS.din.rep.cap_le 10
  rw [nQ] at l10
  simp only [maxLen] at m10
  have f10 := hS.din.rep.frozen hS.din.b11 10
  -- behind the cut
  have hD2 : DIn x.w x.M x.p x.q13 x.q14 ((s.vis : Nat) : Int) ((wr.setCell ⟨x.p, 10, none⟩ (.slice (some ⟨g10, 0, none⟩) (s.m - 1) (M'.cap 10))).drew) ((M'.put 10 (M'.b 10) (s.m - 1) (M'.cap 10) (M'.F 10)).set 11 10 (.slice (some ⟨g10, 0, none⟩) (s.m - 1) (M'.cap 10))) { P' with nQ := s.m - 1 } := by
    have h1 := hS.din.pm.cut_cq (n := s.m - 1) (by rw [hS.dr.nQ]; omega) (M'.b 10) (M'.cap 10)
    have h2 : (Option.map (fun g => (⟨g, 0, none⟩ : Addr)) (M'.b 10)) = some ⟨g10, 0, none⟩ := by rw [b10]; rfl
    rw [h2] at h1
    exact (hS.din.cutp (i := 10) (n := s.m - 1) (by omega) (by omega) (by rw [nQ]; omega) h1).drew
  have kp2 : DKp x K ln ls (M'.val 15) ((M'.put 10 (M'.b 10) (s.m - 1) (M'.cap 10) (M'.F 10)).set 11 10 (.slice (some ⟨g10, 0, none⟩) (s.m - 1) (M'.cap 10))) := (hS.kp.put (by omega)).set (by omega)
  obtain ⟨jc, jc1, jc2⟩ : ∃ j, j < x.n ∧ x.sl j = s.nd (s.m - 2) := by
    have h1 := inv.p1 (s.m - 2) (by omega)
    have h2 := (inv.s1 _ h1.1).1
    rw [h1.2] at h2
    exact h2
  have cS : s.nd (s.m - 2) < x.P.nS := by rw [← jc2]; exact hgo.lt jc jc1
  have uP : s.top < ({ P' with nQ := s.m - 1 } : PS).nS := by show s.top < P'.nS; rw [kS]; exact tS
  have cP : s.nd (s.m - 2) < ({ P' with nQ := s.m - 1 } : PS).nS := by show s.nd (s.m - 2) < P'.nS; rw [kS]; exact cS
  obtain ⟨g3, b3⟩ := hD2.rep.hasBlock (i := 3) (by rw [hD2.pm.nS]; exact Nat.lt_of_le_of_lt (Nat.zero_le _) uP)
  have b10' : ((M'.put 10 (M'.b 10) (s.m - 1) (M'.cap 10) (M'.F 10)).set 11 10 (.slice (some ⟨g10, 0, none⟩) (s.m - 1) (M'.cap 10))).b 10 = some g10 := by rw [set_b, put_bs]; exact b10
  have z1 := hD2.box
  have z10 := hD2.pm.hdr_some hD2.rep hD2.b11 (show 10 < 11 by omega) b10'
  have z3 := hD2.pm.hdr_some hD2.rep hD2.b11 (show 3 < 11 by omega) b3
  have hn10 : ((M'.put 10 (M'.b 10) (s.m - 1) (M'.cap 10) (M'.F 10)).set 11 10 (.slice (some ⟨g10, 0, none⟩) (s.m - 1) (M'.cap 10))).n 10 = s.m - 1 := by rw [set_n, put_ns]
  have hk10 : ((M'.put 10 (M'.b 10) (s.m - 1) (M'.cap 10) (M'.F 10)).set 11 10 (.slice (some ⟨g10, 0, none⟩) (s.m - 1) (M'.cap 10))).cap 10 = M'.cap 10 := by show (M'.put 10 (M'.b 10) (s.m - 1) (M'.cap 10) (M'.F 10)).cap 10 = _; simp [Fam.put]
  rw [hn10, hk10] at z10
  have hn3 : ((M'.put 10 (M'.b 10) (s.m - 1) (M'.cap 10) (M'.F 10)).set 11 10 (.slice (some ⟨g10, 0, none⟩) (s.m - 1) (M'.cap 10))).n 3 = x.P.nS := hD2.pm.nS.trans kS
  rw [hn3] at z3
  have l3 := hD2.rep.le_cap 3
  rw [hn3] at l3
  have zc : (wr.setCell ⟨x.p, 10, none⟩ (.slice (some ⟨g10, 0, none⟩) (s.m - 1) (M'.cap 10))).drew.cell? ⟨g10, (s.m - 2) * 2, none⟩ = some (.int .i64 ((s.nd (s.m - 2) : Nat) : Int)) := (hD2.rep.cell b10' (by rw [hn10]; show (s.m - 2) * 2 < (s.m - 1) * 2; omega)).trans (congrArg some ((hD2.pm.cq _ (by show _ < 2 * (s.m - 1); omega)).trans (by show Value.int .i64 (P'.cq _) = _; rw [Nat.mul_comm (s.m - 2) 2, (hS.dr.cq (s.m - 2) (by omega)).1])))
  have zl1 := hD2.slot b3 cP (show 4 < 7 by omega) (hD2.pm.low _ cP)
  have zl2 := hD2.slot b3 uP (show 4 < 7 by omega) (hD2.pm.low _ uP)
  have zi := hD2.slot b3 uP (show 3 < 7 by omega) (hD2.pm.idx _ uP)
  have el1 : ({ P' with nQ := s.m - 1 } : PS).low (s.nd (s.m - 2)) = ((s.low (s.nd (s.m - 2)) : Nat) : Int) := hS.dr.low (s.m - 2) (by omega)
  have el2 : ({ P' with nQ := s.m - 1 } : PS).low s.top = ((s.low s.top : Nat) : Int) := hS.dr.low (s.m - 1) (by omega)
  have eix : ({ P' with nQ := s.m - 1 } : PS).idx s.top = ((s.idx s.top : Nat) : Int) := hS.dr.idx s.top tS
  rw [el1] at zl1
  rw [el2] at zl2
  rw [eix] at zi
  have fl := hD2.rep.frozen b3 (s.nd (s.m - 2) * 7 + 4)
  have hD3 : Hid (DIn x.w x.M x.p x.q13 x.q14 ((s.vis : Nat) : Int) (((wr.setCell ⟨x.p, 10, none⟩ (.slice (some ⟨g10, 0, none⟩) (s.m - 1) (M'.cap 10))).drew.drewN 0).setCell ⟨g3, s.nd (s.m - 2) * 7 + 4, none⟩ (.int .i64 ((min (s.low (s.nd (s.m - 2))) (s.low s.top) : Nat) : Int))).drew (((M'.put 10 (M'.b 10) (s.m - 1) (M'.cap 10) (M'.F 10)).set 11 10 (.slice (some ⟨g10, 0, none⟩) (s.m - 1) (M'.cap 10))).set 3 (s.nd (s.m - 2) * 7 + 4) (.int .i64 ((min (s.low (s.nd (s.m - 2))) (s.low s.top) : Nat) : Int))) { P' with nQ := s.m - 1, low := upd P'.low (s.nd (s.m - 2)) ((min (s.low (s.nd (s.m - 2))) (s.low s.top) : Nat) : Int) }) := by
    exact ((hD2.drewN 0).setp (i := 3) b3 (by omega) (hD2.pm.set_low (s.nd (s.m - 2)) ((min (s.low (s.nd (s.m - 2))) (s.low s.top) : Nat) : Int))).drew
  have hD3a : Hid (∀ n, DIn x.w x.M x.p x.q13 x.q14 ((s.vis : Nat) : Int) (((wr.setCell ⟨x.p, 10, none⟩ (.slice (some ⟨g10, 0, none⟩) (s.m - 1) (M'.cap 10))).drew.drewN n).setCell ⟨g3, s.nd (s.m - 2) * 7 + 4, none⟩ (.int .i64 ((min (s.low (s.nd (s.m - 2))) (s.low s.top) : Nat) : Int))).drew (((M'.put 10 (M'.b 10) (s.m - 1) (M'.cap 10) (M'.F 10)).set 11 10 (.slice (some ⟨g10, 0, none⟩) (s.m - 1) (M'.cap 10))).set 3 (s.nd (s.m - 2) * 7 + 4) (.int .i64 ((min (s.low (s.nd (s.m - 2))) (s.low s.top) : Nat) : Int))) { P' with nQ := s.m - 1, low := upd P'.low (s.nd (s.m - 2)) ((min (s.low (s.nd (s.m - 2))) (s.low s.top) : Nat) : Int) }) := fun n =>
    ((hD2.drewN n).setp (i := 3) b3 (by omega) (hD2.pm.set_low (s.nd (s.m - 2)) ((min (s.low (s.nd (s.m - 2))) (s.low s.top) : Nat) : Int))).drew
  have kp3 : Hid (DKp x K ln ls (M'.val 15) (((M'.put 10 (M'.b 10) (s.m - 1) (M'.cap 10) (M'.F 10)).set 11 10 (.slice (some ⟨g10, 0, none⟩) (s.m - 1) (M'.cap 10))).set 3 (s.nd (s.m - 2) * 7 + 4) (.int .i64 ((min (s.low (s.nd (s.m - 2))) (s.low s.top) : Nat) : Int)))) := kp2.set (by omega)
  have stay : Hid (s.low s.top ≠ s.idx s.top → ∀ w', DIn x.w x.M x.p x.q13 x.q14 ((s.vis : Nat) : Int) w' (((M'.put 10 (M'.b 10) (s.m - 1) (M'.cap 10) (M'.F 10)).set 11 10 (.slice (some ⟨g10, 0, none⟩) (s.m - 1) (M'.cap 10))).set 3 (s.nd (s.m - 2) * 7 + 4) (.int .i64 ((min (s.low (s.nd (s.m - 2))) (s.low s.top) : Nat) : Int))) { P' with nQ := s.m - 1, low := upd P'.low (s.nd (s.m - 2)) ((min (s.low (s.nd (s.m - 2))) (s.low s.top) : Nat) : Int) } → DRel x ri (2 * dgap x.P x.sl s.sc x.n + (s.m - 1)) (M'.val 15) w') := by
    intro hne w' h1
    exact ⟨s.stay, K, ln, ls, lk, _, _, ⟨h1, hS.dr.stay inv hm, (inv.stay (by omega) hq hne).2, kp3.out.r12, kp3.out.st⟩, hPl.stay, kp3.out.v15, rfl⟩
  have lf : Hid (s.low s.top = s.idx s.top → DLf x s P' { P' with nQ := s.m - 1, low := upd P'.low (s.nd (s.m - 2)) ((min (s.low (s.nd (s.m - 2))) (s.low s.top) : Nat) : Int) }) := by
    intro hl
    obtain ⟨q1, q2, q3, q4, q5, q6, q7, e⟩ := hS.dr.eq
    refine ⟨⟨_, _, _, _, _, _, _, by rw [e]⟩, rfl, rfl, fun j hj => ?_, rfl, rfl, rfl, rfl⟩
    show upd P'.low (s.nd (s.m - 2)) _ (s.nd j) = _
    by_cases ej : s.nd j = s.nd (s.m - 2)
    · rw [ej, upd_same]
      have h1 := inv.low_le (show s.m - 2 < s.m by omega)
      have h2 := inv.p1 (s.m - 2) (by omega)
      have h3 := inv.p1 (s.m - 1) (by omega)
      have h4 := inv.p2 (s.m - 2) (s.m - 1) (by omega) (by omega)
      have h5 := inv.s2 _ _ h4 h3.1
      rw [h2.2, h3.2] at h5
      have h6 : s.nd (s.m - 1) = s.top := rfl
      rw [h6] at h5
      have : min (s.low (s.nd (s.m - 2))) (s.low s.top) = s.low (s.nd (s.m - 2)) := by omega
      rw [this]
    · rw [upd_other _ _ ej]; exact hS.dr.low j (by omega)
  have d1 : x.p ≠ g3 := hD2.ne hD2.b11 b3 (by omega)
  have d2 : x.q13 ≠ g3 := hD2.ne hD2.b13 b3 (by omega)
  have ptne : s.top ≠ s.nd (s.m - 2) := fun h => by
    have := inv.nd_inj (i := s.m - 1) (j := s.m - 2) (by omega) (by omega) h
    omega
  have HQ : Hid (DNext x ri s v39 (Q (.exit 3))) := hQ
  have HC : Hid (∀ (a : Act) (w' : World) (M2 : Fam) (P2 : PS), FD x (M'.val 15) v39 a → a.tmps.getD 11 undef = .int .i64 (s.top : Int) → DIn x.w x.M x.p x.q13 x.q14 ((s.vis : Nat) : Int) w' M2 P2 → DLf x s P' P2 → DKp x K ln ls (M'.val 15) M2 → s.low s.top = s.idx s.top → Code.wp Try.prog (tl 6 (d3 (Try.f28.body.getD .skip))) Q a w') := hC
  have hw1 : IntKind.i64.wrap ((s.m : Int) - 1) = ((s.m - 1 : Nat) : Int) := by rw [IntKind.wrap_i64]; omega
  have hw2 : IntKind.i64.wrap ((s.m - 1 : Nat) : Int) = ((s.m - 1 : Nat) : Int) := by rw [IntKind.wrap_i64]; omega
  have hw3 : IntKind.i64.wrap (((s.m - 1 : Nat) : Int) - 1) = ((s.m - 2 : Nat) : Int) := by rw [IntKind.wrap_i64]; omega
  have hw4 : IntKind.i64.wrap ((s.m - 2 : Nat) : Int) = ((s.m - 2 : Nat) : Int) := by rw [IntKind.wrap_i64]; omega
  have hcc : ((s.m : Nat) : Int) - 1 = ((s.m - 1 : Nat) : Int) := by omega
  have hcc2 : ((s.m - 1 : Nat) : Int) - 1 = ((s.m - 2 : Nat) : Int) := by omega
  have lmi : ((s.m - 2 : Nat) : Int) < ((s.m - 1 : Nat) : Int) := by omega
  have lm2 : s.m - 2 < s.m - 1 := by omega
  have lm1 : s.m - 1 ≤ M'.cap 10 := by omega
  have hpos : (0 : Int) < ((s.m - 1 : Nat) : Int) := by omega
  have hpos' : 0 < s.m - 1 := by omega
  have hmin := run_min2n
  clear hQ hC hD2 hD3 kp2 hS hPl hgo inv b10 b3 b10' nQ el1 el2 eix hn10 hk10 hn3 kE kfr kto kS kon kout kC jt1 jt2 jc1 jc2 hf h11 hq
  generalize ((M'.put 10 (M'.b 10) (s.m - 1) (M'.cap 10) (M'.F 10)).set 11 10 (.slice (some ⟨g10, 0, none⟩) (s.m - 1) (M'.cap 10))).cap 3 = k3 at *
  generalize hk : M'.cap 10 = k10 at *
  have Hk : Hid (M'.cap 10 = k10) := hk
  clear hk
  show Code.wp Try.prog (Code.seq _ (Code.seq (Code.seq _ (Code.cond (.tmp 185) (Code.seq _ _) Code.skip)) (Code.seq (Code.seq _ (Code.cond (.tmp 239) (Code.exit 3) Code.skip)) (tl 6 (d3 (Try.f28.body.getD .skip)))))) Q _ wr
  refine wp_seq_k (fun K1 hK => ?_)
  have HK : Hid (∀ (a : Act) (w : World), _ → K1 a w) := hK
  clear hK
  have FK : Hid (∀ k w', k ≤ 0 → C1 wr.drew ((wr.setCell ⟨x.p, 10, none⟩ (.slice (some ⟨g10, 0, none⟩) (s.m - 1) k10)).drew) k w' → w' = wr.drew) := by
    intro k w' hk hw
    have hk : k = 0 := by omega
    subst hk
    exact hw
  refine wp_region_stage (C1 wr.drew ((wr.setCell ⟨x.p, 10, none⟩ (.slice (some ⟨g10, 0, none⟩) (s.m - 1) k10)).drew)) [14] (fun i => 0) (by kernel_rfl) (by kernel_rfl) (rfl) ?_
  refine wpStage_read rfl rfl ?_
  apply Exists.intro
  refine ⟨fun k w' hk hw => ?_, ?_⟩
  · have hw0 := FK.out k w' hk hw
    subst hw0
    go_simp
    first | rfl | exact ⟨rfl, hw⟩
  go_simp
  refine wpStage_read rfl rfl ?_
  apply Exists.intro
  refine ⟨fun k w' hk hw => ?_, ?_⟩
  · have hw0 := FK.out k w' hk hw
    subst hw0
    go_simp
    first | rfl | exact ⟨rfl, hw⟩
  go_simp
  refine wpStage_read rfl rfl ?_
  apply Exists.intro
  refine ⟨fun k w' hk hw => ?_, ?_⟩
  · go_simp
    first | rfl | exact ⟨rfl, hw⟩
  go_simp
  refine wpStage_read rfl rfl ?_
  apply Exists.intro
  refine ⟨fun k w' hk hw => ?_, ?_⟩
  · go_simp
    first | rfl | exact ⟨rfl, hw⟩
  go_simp
  refine wpStage_read rfl rfl ?_
  apply Exists.intro
  refine ⟨fun k w' hk hw => ?_, ?_⟩
  · have hw0 := FK.out k w' hk hw
    subst hw0
    go_simp
    first | rfl | exact ⟨rfl, hw⟩
  go_simp
  refine wpStage_read rfl rfl ?_
  apply Exists.intro
  refine ⟨fun k w' hk hw => ?_, ?_⟩
  · have hw0 := FK.out k w' hk hw
    subst hw0
    go_simp
    first | rfl | exact ⟨rfl, hw⟩
  go_simp
  refine wpStage_read rfl rfl ?_
  apply Exists.intro
  refine ⟨fun k w' hk hw => ?_, ?_⟩
  · go_simp
    first | rfl | exact ⟨rfl, hw⟩
  go_simp
  refine wpStage_read rfl rfl ?_
  apply Exists.intro
  refine ⟨fun k w' hk hw => ?_, ?_⟩
  · go_simp
    first | rfl | exact ⟨rfl, hw⟩
  go_simp
  refine wpStage_read rfl rfl ?_
  apply Exists.intro
  refine ⟨fun k w' hk hw => ?_, ?_⟩
  · have hw0 := FK.out k w' hk hw
    subst hw0
    go_simp
    first | rfl | exact ⟨rfl, hw⟩
  go_simp
  refine wpStage_read rfl rfl ?_
  apply Exists.intro
  refine ⟨fun k w' hk hw => ?_, ?_⟩
  · go_simp
    first | rfl | exact ⟨rfl, hw⟩
  go_simp
  refine wpStage_read rfl rfl ?_
  apply Exists.intro
  refine ⟨fun k w' hk hw => ?_, ?_⟩
  · go_simp
    first | rfl | exact ⟨rfl, hw⟩
  go_simp
  refine wpStage_read rfl rfl ?_
  apply Exists.intro
  refine ⟨fun k w' hk hw => ?_, ?_⟩
  · go_simp
    first | rfl | exact ⟨rfl, hw⟩
  go_simp
  refine wpStage_read rfl rfl ?_
  apply Exists.intro
  refine ⟨fun k w' hk hw => ?_, ?_⟩
  · go_simp
    first | rfl | exact ⟨rfl, hw⟩
  go_simp
  refine wpStage_read rfl rfl ?_
  apply Exists.intro
  refine ⟨fun k w' hk hw => ?_, ?_⟩
  · go_simp
    first | rfl | exact ⟨rfl, hw⟩
  go_simp
  refine wpStage_move rfl rfl ?_
  apply Exists.intro
  refine ⟨fun w' hw => ?_, ?_⟩
  · have hw : w' = wr.drew := hw
    subst hw
    go_simp
    first | rfl | exact ⟨rfl, rfl⟩
  go_simp
  intro w' hw0
  have hw : w' = ((wr.setCell ⟨x.p, 10, none⟩ (.slice (some ⟨g10, 0, none⟩) (s.m - 1) k10)).drew) := hw0
  clear hw0
  refine HK.out _ _ ?_
  clear HK K1 FK x1 x2
  subst hw
  generalize ((wr.setCell ⟨x.p, 10, none⟩ (.slice (some ⟨g10, 0, none⟩) (s.m - 1) k10)).drew) = wb at *
  refine wp_seq_k (fun K1 hK => ?_)
  have HK : Hid (∀ (a : Act) (w : World), _ → K1 a w) := hK
  clear hK
  refine wp_seq_k (fun K2 hK => ?_)
  have HK2 : Hid (∀ (a : Act) (w : World), _ → K2 a w) := hK
  clear hK
  go_wp2
  refine HK2.out _ _ (wp_cond_true (by kernel_rfl) ?_)
  clear HK2 K2
  refine wp_seq_k (fun K2 hK => ?_)
  have HK2 : Hid (∀ (a : Act) (w : World), _ → K2 a w) := hK
  clear hK
  go_quiet (fail)
  refine HK2.out _ _ ?_
  clear HK2 K2
  have y1 : (wb.drewN nq).cell? ⟨x.q13, 0, none⟩ = some (.pointer (some ⟨x.p, 0, none⟩)) := z1
  have y3 : (wb.drewN nq).cell? ⟨x.p, 3, none⟩ = some (.slice (some ⟨g3, 0, none⟩) x.P.nS k3) := z3
  have y4 : (wb.drewN nq).cell? ⟨g3, s.nd (s.m - 2) * 7 + 4, none⟩ = some (.int .i64 ((s.low (s.nd (s.m - 2)) : Nat) : Int)) := zl1
  have y5 : (wb.drewN nq).cell? ⟨g3, s.top * 7 + 4, none⟩ = some (.int .i64 ((s.low s.top : Nat) : Int)) := zl2
  have y6 : (wb.drewN nq).cell? ⟨g3, s.top * 7 + 3, none⟩ = some (.int .i64 ((s.idx s.top : Nat) : Int)) := zi
  have yf : (wb.drewN nq).frozen? ⟨g3, s.nd (s.m - 2) * 7 + 4, none⟩ = false := fl
  have hD4 : Hid (DIn x.w x.M x.p x.q13 x.q14 ((s.vis : Nat) : Int) (((wb.drewN nq).setCell ⟨g3, s.nd (s.m - 2) * 7 + 4, none⟩ (.int .i64 ((min (s.low (s.nd (s.m - 2))) (s.low s.top) : Nat) : Int))).drew) _ _) := hD3a.out nq
  clear z1 z3 z10 zc zl1 zl2 zi fl hD3a
  generalize wb.drewN nq = wc at *
  have FK : Hid (∀ k w', k ≤ 0 → C1 wc.drew ((wc.setCell ⟨g3, s.nd (s.m - 2) * 7 + 4, none⟩ (.int .i64 ((min (s.low (s.nd (s.m - 2))) (s.low s.top) : Nat) : Int))).drew) k w' → w' = wc.drew) := by
    intro k w' hk hw
    have hk : k = 0 := by omega
    subst hk
    exact hw
  refine wp_region_stage (C1 wc.drew ((wc.setCell ⟨g3, s.nd (s.m - 2) * 7 + 4, none⟩ (.int .i64 ((min (s.low (s.nd (s.m - 2))) (s.low s.top) : Nat) : Int))).drew)) [24] (fun i => 0) (by kernel_rfl) (by kernel_rfl) (rfl) ?_
  refine wpStage_read rfl rfl ?_
  apply Exists.intro
  refine ⟨fun k w' hk hw => ?_, ?_⟩
  · have hw0 := FK.out k w' hk hw
    subst hw0
    go_simp
    first | rfl | exact ⟨rfl, hw⟩
  go_simp
  refine wpStage_read rfl rfl ?_
  apply Exists.intro
  refine ⟨fun k w' hk hw => ?_, ?_⟩
  · go_simp
    first | rfl | exact ⟨rfl, hw⟩
  go_simp
  refine wpStage_read rfl rfl ?_
  apply Exists.intro
  refine ⟨fun k w' hk hw => ?_, ?_⟩
  · go_simp
    first | rfl | exact ⟨rfl, hw⟩
  go_simp
  refine wpStage_read rfl rfl ?_
  apply Exists.intro
  refine ⟨fun k w' hk hw => ?_, ?_⟩
  · have hw0 := FK.out k w' hk hw
    subst hw0
    go_simp
    first | rfl | exact ⟨rfl, hw⟩
  go_simp
  refine wpStage_read rfl rfl ?_
  apply Exists.intro
  refine ⟨fun k w' hk hw => ?_, ?_⟩
  · go_simp
    first | rfl | exact ⟨rfl, hw⟩
  go_simp
  refine wpStage_read rfl rfl ?_
  apply Exists.intro
  refine ⟨fun k w' hk hw => ?_, ?_⟩
  · have hw0 := FK.out k w' hk hw
    subst hw0
    go_simp
    first | rfl | exact ⟨rfl, hw⟩
  go_simp
  refine wpStage_read rfl rfl ?_
  apply Exists.intro
  refine ⟨fun k w' hk hw => ?_, ?_⟩
  · go_simp
    first | rfl | exact ⟨rfl, hw⟩
  go_simp
  refine wpStage_read rfl rfl ?_
  apply Exists.intro
  refine ⟨fun k w' hk hw => ?_, ?_⟩
  · go_simp
    first | rfl | exact ⟨rfl, hw⟩
  go_simp
  refine wpStage_read rfl rfl ?_
  apply Exists.intro
  refine ⟨fun k w' hk hw => ?_, ?_⟩
  · have hw0 := FK.out k w' hk hw
    subst hw0
    go_simp
    first | rfl | exact ⟨rfl, hw⟩
  go_simp
  refine wpStage_read rfl rfl ?_
  apply Exists.intro
  refine ⟨fun k w' hk hw => ?_, ?_⟩
  · go_simp
    first | rfl | exact ⟨rfl, hw⟩
  go_simp
  refine wpStage_read rfl rfl ?_
  apply Exists.intro
  refine ⟨fun k w' hk hw => ?_, ?_⟩
  · go_simp
    first | rfl | exact ⟨rfl, hw⟩
  go_simp
  refine wpStage_read rfl rfl ?_
  apply Exists.intro
  refine ⟨fun k w' hk hw => ?_, ?_⟩
  · go_simp
    first | rfl | exact ⟨rfl, hw⟩
  go_simp
  refine wpStage_read rfl rfl ?_
  apply Exists.intro
  refine ⟨fun k w' hk hw => ?_, ?_⟩
  · have hw0 := FK.out k w' hk hw
    subst hw0
    go_simp
    first | rfl | exact ⟨rfl, hw⟩
  go_simp
  refine wpStage_read rfl rfl ?_
  apply Exists.intro
  refine ⟨fun k w' hk hw => ?_, ?_⟩
  · have hw0 := FK.out k w' hk hw
    subst hw0
    go_simp
    first | rfl | exact ⟨rfl, hw⟩
  go_simp
  refine wpStage_read rfl rfl ?_
  apply Exists.intro
  refine ⟨fun k w' hk hw => ?_, ?_⟩
  · go_simp
    first | rfl | exact ⟨rfl, hw⟩
  go_simp
  refine wpStage_read rfl rfl ?_
  apply Exists.intro
  refine ⟨fun k w' hk hw => ?_, ?_⟩
  · go_simp
    first | rfl | exact ⟨rfl, hw⟩
  go_simp
  refine wpStage_read rfl rfl ?_
  apply Exists.intro
  refine ⟨fun k w' hk hw => ?_, ?_⟩
  · have hw0 := FK.out k w' hk hw
    subst hw0
    go_simp
    first | rfl | exact ⟨rfl, hw⟩
  go_simp
  refine wpStage_read rfl rfl ?_
  apply Exists.intro
  refine ⟨fun k w' hk hw => ?_, ?_⟩
  · go_simp
    first | rfl | exact ⟨rfl, hw⟩
  go_simp
  refine wpStage_read rfl rfl ?_
  apply Exists.intro
  refine ⟨fun k w' hk hw => ?_, ?_⟩
  · go_simp
    first | rfl | exact ⟨rfl, hw⟩
  go_simp
  refine wpStage_read rfl rfl ?_
  apply Exists.intro
  refine ⟨fun k w' hk hw => ?_, ?_⟩
  · go_simp
    first | rfl | exact ⟨rfl, hw⟩
  go_simp
  refine wpStage_read rfl rfl ?_
  apply Exists.intro
  refine ⟨fun k w' hk hw => ?_, ?_⟩
  · have hw0 := FK.out k w' hk hw
    subst hw0
    go_simp
    first | rfl | exact ⟨rfl, hw⟩
  go_simp
  refine wpStage_read rfl rfl ?_
  apply Exists.intro
  refine ⟨fun k w' hk hw => ?_, ?_⟩
  · skip
    go_simp
    first | rfl | exact ⟨rfl, hw⟩
  go_simp
  refine wpStage_read rfl rfl ?_
  apply Exists.intro
  refine ⟨fun k w' hk hw => ?_, ?_⟩
  · go_simp
    first | rfl | exact ⟨rfl, hw⟩
  go_simp
  refine wpStage_read rfl rfl ?_
  apply Exists.intro
  refine ⟨fun k w' hk hw => ?_, ?_⟩
  · go_simp
    first | rfl | exact ⟨rfl, hw⟩
  go_simp
  refine wpStage_move rfl rfl ?_
  apply Exists.intro
  refine ⟨fun w' hw => ?_, ?_⟩
  · have hw : w' = wc.drew := hw
    subst hw
    go_simp
    first | rfl | exact ⟨rfl, rfl⟩
  go_simp
  intro w' hw0
  have hw : w' = ((wc.setCell ⟨g3, s.nd (s.m - 2) * 7 + 4, none⟩ (.int .i64 ((min (s.low (s.nd (s.m - 2))) (s.low s.top) : Nat) : Int))).drew) := hw0
  clear hw0
  subst hw
  refine HK.out _ _ ?_
  clear HK K1 FK
  have u1 : ((wc.setCell ⟨g3, s.nd (s.m - 2) * 7 + 4, none⟩ (.int .i64 ((min (s.low (s.nd (s.m - 2))) (s.low s.top) : Nat) : Int))).drew).cell? ⟨x.q13, 0, none⟩ = some (.pointer (some ⟨x.p, 0, none⟩)) := (cell_ne d2).trans y1
  have u3 : ((wc.setCell ⟨g3, s.nd (s.m - 2) * 7 + 4, none⟩ (.int .i64 ((min (s.low (s.nd (s.m - 2))) (s.low s.top) : Nat) : Int))).drew).cell? ⟨x.p, 3, none⟩ = some (.slice (some ⟨g3, 0, none⟩) x.P.nS k3) := (cell_ne d1).trans y3
  have u5 : ((wc.setCell ⟨g3, s.nd (s.m - 2) * 7 + 4, none⟩ (.int .i64 ((min (s.low (s.nd (s.m - 2))) (s.low s.top) : Nat) : Int))).drew).cell? ⟨g3, s.top * 7 + 4, none⟩ = some (.int .i64 ((s.low s.top : Nat) : Int)) := (cell_other_off (by omega)).trans y5
  have u6 : ((wc.setCell ⟨g3, s.nd (s.m - 2) * 7 + 4, none⟩ (.int .i64 ((min (s.low (s.nd (s.m - 2))) (s.low s.top) : Nat) : Int))).drew).cell? ⟨g3, s.top * 7 + 3, none⟩ = some (.int .i64 ((s.idx s.top : Nat) : Int)) := (cell_other_off (by omega)).trans y6
  clear y1 y3 y4 y5 y6 yf
  generalize ((wc.setCell ⟨g3, s.nd (s.m - 2) * 7 + 4, none⟩ (.int .i64 ((min (s.low (s.nd (s.m - 2))) (s.low s.top) : Nat) : Int))).drew) = we at *
  refine wp_seq_k (fun K1 hK => ?_)
  have HK : Hid (∀ (a : Act) (w : World), _ → K1 a w) := hK
  clear hK
  refine wp_seq_k (fun K2 hK => ?_)
  have HK2 : Hid (∀ (a : Act) (w : World), _ → K2 a w) := hK
  clear hK
  by_cases hl : s.low s.top = s.idx s.top
  · rw [hl] at u5
    go_quiet (fail)
    refine HK2.out _ _ (wp_cond_false (by kernel_rfl) (wp_skip ?_))
    refine HK.out _ _ ?_
    exact HC.out _ _ _ _ ⟨by kernel_rfl, by kernel_rfl, by kernel_rfl, by kernel_rfl, by kernel_rfl, by kernel_rfl, by kernel_rfl, by kernel_rfl, by kernel_rfl, by kernel_rfl, by kernel_rfl⟩ (by kernel_rfl) (hD4.out.drewN _) (lf.out hl) kp3.out hl
  · have hne1 : (((s.low s.top : Nat) : Int) == ((s.idx s.top : Nat) : Int)) = false := by
      have h0 : ¬ ((s.low s.top : Nat) : Int) = ((s.idx s.top : Nat) : Int) := by omega
      simpa using h0
    have hne2 : (((s.low s.top : Nat) : Int) != ((s.idx s.top : Nat) : Int)) = true := by
      have h0 : ¬ ((s.low s.top : Nat) : Int) = ((s.idx s.top : Nat) : Int) := by omega
      simpa using h0
    go_quiet (fail)
    refine HK2.out _ _ (wp_cond_true (by kernel_rfl) (wp_exit ?_))
    exact HQ.out _ _ _ _ ⟨by kernel_rfl, by kernel_rfl, by kernel_rfl, by kernel_rfl, by kernel_rfl, by kernel_rfl, by kernel_rfl, by kernel_rfl, by kernel_rfl, by kernel_rfl, by kernel_rfl⟩ (stay.out hl _ (hD4.out.drewN _)) (by omega)
end Go.Proofs.Qxb6602148a
