import Derived.Test.Qxb6602148aDwc
attribute [local go_sem] Go.Proofs.Qxb6602148a.yTo Go.Proofs.Qxb6602148a.yUpon
namespace Go.Proofs.Qxb6602148a
open Go.RowKit
set_option linter.unusedVariables false
set_option linter.unusedSimpArgs false

/-- What follows a round. -/
def DNext (x : DX) (ri : Nat) (s : TS) (v39 : Value) (R : Act → World → Prop) : Prop :=
  ∀ (a : Act) (w' : World) (v7 : Value) (n : Nat), FD x v7 v39 a → DRel x ri n v7 w' → n < 2 * dgap x.P x.sl s.sc x.n + s.m → R a w'

theorem Strong.loc {M M' : Fam} {K : Nat} {ln : Nat → Nat} {ls : Nat → Nat → Nat} (h : Strong M K ln ls) {X : Nat → Prop} (hl : LocX X M M') (h15 : ¬ X 15) (hx : ∀ k, ¬ X (62 + 3 * k)) : Strong M' K ln ls := by
  have r15 := hl.row 15 (by unfold Own; omega) h15
  refine ⟨r15.2.1.trans h.1, fun k hk => ?_⟩
  have o : Own (62 + 3 * k) := by unfold Own; omega
  obtain ⟨a, b⟩ := h.2 k hk
  exact ⟨by rw [r15.2.2.2, a]; exact (hl.val o (hx k)).symm, hl.ints o (hx k) b⟩
theorem Strong.set {M : Fam} {K : Nat} {ln : Nat → Nat} {ls : Nat → Nat → Nat} (h : Strong M K ln ls) {i j : Nat} {v : Value} (hi : i < 12) : Strong (M.set i j v) K ln ls :=
  ⟨h.1, fun k hk => ⟨by rw [set_F _ (by omega)]; exact (h.2 k hk).1, (h.2 k hk).2.set_ne (by omega)⟩⟩
theorem Strong.put {M : Fam} {K : Nat} {ln : Nat → Nat} {ls : Nat → Nat → Nat} (h : Strong M K ln ls) {i n cap : Nat} {b : Option Nat} {F : Nat → Value} (hi : i < 12) : Strong (M.put i b n cap F) K ln ls :=
  ⟨(put_n (by omega)).trans h.1, fun k hk => ⟨by rw [put_F (by omega), put_val (by omega)]; exact (h.2 k hk).1, (h.2 k hk).2.put_ne (by omega)⟩⟩

section
variable {x : DX} {ri : Nat} {s : TS} {K : Nat} {ln : Nat → Nat} {ls : Nat → Nat → Nat} {lk : Nat → Nat}
theorem DPl.gap (h : DPl x ri s K ln ls lk) (hgo : DGo x.P x.c x.n x.sl) {j : Nat} (hj : j < x.n) (ej : x.sl j = s.top) (hq : s.sc s.top < x.P.on s.top) : dgap x.P x.sl (up s.sc s.top (s.sc s.top + 1)) x.n + 1 = dgap x.P x.sl s.sc x.n := by
  rw [← ej] at hq ⊢
  exact dgap_up hgo.inj hj hq x.n hj (Nat.le_refl _)
theorem DPl.scb_up (h : DPl x ri s K ln ls lk) (hq : s.sc s.top < x.P.on s.top) : ∀ j, j < x.n → up s.sc s.top (s.sc s.top + 1) (x.sl j) ≤ x.P.on (x.sl j) := by
  intro j hj
  by_cases e : x.sl j = s.top
  · rw [e, up_same]; exact hq
  · rw [up_other _ _ e]; exact h.scb j hj
theorem DPl.adv (h : DPl x ri s K ln ls lk) (hq : s.sc s.top < x.P.on s.top) (hgap : dgap x.P x.sl (up s.sc s.top (s.sc s.top + 1)) x.n + 1 = dgap x.P x.sl s.sc x.n) : DPl x ri s.adv K ln ls lk :=
  ⟨h.li.same rfl rfl, by show s.vis + dgap x.P x.sl (up s.sc s.top (s.sc s.top + 1)) x.n ≤ _; have := h.bd; omega, h.cov, h.kb, h.scb_up hq⟩
theorem DPl.back (h : DPl x ri s K ln ls lk) (hq : s.sc s.top < x.P.on s.top) (hgap : dgap x.P x.sl (up s.sc s.top (s.sc s.top + 1)) x.n + 1 = dgap x.P x.sl s.sc x.n) (t : Nat) : DPl x ri (s.back t) K ln ls lk :=
  ⟨h.li.same rfl rfl, by show s.vis + dgap x.P x.sl (up s.sc s.top (s.sc s.top + 1)) x.n ≤ _; have := h.bd; omega, h.cov, h.kb, h.scb_up hq⟩
theorem DPl.down (h : DPl x ri s K ln ls lk) (hq : s.sc s.top < x.P.on s.top) (hgap : dgap x.P x.sl (up s.sc s.top (s.sc s.top + 1)) x.n + 1 = dgap x.P x.sl s.sc x.n) (t : Nat) : DPl x ri (s.down t) K ln ls lk :=
  ⟨h.li.same rfl rfl, by show s.vis + 1 + dgap x.P x.sl (up s.sc s.top (s.sc s.top + 1)) x.n ≤ _; have := h.bd; omega, fun j hj => by
    rcases h.cov j hj with h1 | h1
    · exact .inl h1
    · refine .inr ?_
      show up s.idx t (s.vis + 1) (x.sl j) ≠ 0
      by_cases e : x.sl j = t
      · rw [e, up_same]; omega
      · rw [up_other _ _ e]; exact h1, by show K + (s.m + 1) ≤ s.vis + 1; have := h.kb; omega, h.scb_up hq⟩
end

set_option maxRecDepth 40000 in
set_option maxHeartbeats 8000000 in
/-- Block 4: what the edge leads to. -/
theorem dw_edge2 (x : DX) (v39 : Value) (a : Act) (s : TS) (K : Nat) (ln : Nat → Nat) (ls : Nat → Nat → Nat) (lk : Nat → Nat) (P' : PS) (M' : Fam) (w0 wr : World) (ri e t : Nat) (hf : FD x (M'.val 15) v39 a) (h11 : a.tmps.getD 11 undef = .int .i64 (s.top : Int)) (h12 : a.tmps.getD 12 undef = .int .i64 (t : Int)) (hS : DSt x s K ln ls P' M' w0) (hPl : DPl x ri s K ln ls lk) (hgo : DGo x.P x.c x.n x.sl) (hm : 0 < s.m) (hv : s.vis ≤ 99999990) (hq : s.sc s.top < x.P.on s.top) (hE : Edg x s e t)
    (hD : DIn x.w x.M x.p x.q13 x.q14 ((s.vis : Nat) : Int) wr (M'.set 10 ((s.m - 1) * 2 + 1) (.int .i64 ((s.sc s.top : Int) + 1))) (P'.advQ (s.m - 1) ((s.sc s.top : Int) + 1))) (Q : Exit → Act → World → Prop) (hQ : DNext x ri s v39 (Q (.exit 3))) :
    Code.wp Try.prog (tl 2 (dTB (Try.f28.body.getD .skip))) Q a wr := by
  obtain ⟨y, rfl⟩ := litd_11_12 hf h11 h12
  obtain ⟨jt, jt1, jt2, tS⟩ := hS.top hgo hm
  obtain ⟨kE, kfr, kto, kS, kon, kout, kC⟩ := hS.dr.keeps
  have hgap := hPl.gap hgo jt1 jt2 hq
  obtain ⟨j', j'1, j'2⟩ := hE.inA
  have tlt : t < x.P.nS := by rw [← j'2]; exact hgo.lt j' j'1
  have tP : t < (P'.advQ (s.m - 1) ((s.sc s.top : Int) + 1)).nS := by show t < P'.nS; rw [kS]; exact tlt
  have uP : s.top < (P'.advQ (s.m - 1) ((s.sc s.top : Int) + 1)).nS := by show s.top < P'.nS; rw [kS]; exact tS
  obtain ⟨g3, b3⟩ := hD.rep.hasBlock (i := 3) (by rw [hD.pm.nS]; exact Nat.lt_of_le_of_lt (Nat.zero_le _) tP)
  have x1 := hD.box
  have x3 := hD.pm.hdr_some hD.rep hD.b11 (show 3 < 11 by omega) b3
  have hn3 : (M'.set 10 ((s.m - 1) * 2 + 1) (.int .i64 ((s.sc s.top : Int) + 1))).n 3 = x.P.nS := hD.pm.nS.trans kS
  rw [hn3] at x3
  have l3 := hD.rep.le_cap 3
  rw [hn3] at l3
  have xc := hD.slot b3 tP (show 1 < 7 by omega) (hD.pm.comp t tP)
  have xi := hD.slot b3 tP (show 3 < 7 by omega) (hD.pm.idx t tP)
  have ec : (P'.advQ (s.m - 1) ((s.sc s.top : Int) + 1)).comp t = if s.lab t = 0 then (x.c : Int) else -1 := by
    show P'.comp t = _
    rw [hS.dr.comp t]
    have : x.P.comp t = (x.c : Int) := by rw [← j'2]; exact hgo.comp j' j'1
    rw [this]
  have ei : (P'.advQ (s.m - 1) ((s.sc s.top : Int) + 1)).idx t = ((s.idx t : Nat) : Int) := hS.dr.idx t tlt
  rw [ec] at xc
  rw [ei] at xi
  have r12 : ((M'.set 10 ((s.m - 1) * 2 + 1) (.int .i64 ((s.sc s.top : Int) + 1))).val 12 = .slice x.a12 x.n x.k12 ∧ Ints (M'.set 10 ((s.m - 1) * 2 + 1) (.int .i64 ((s.sc s.top : Int) + 1))) 12 x.n (fun j => ((x.sl j : Nat) : Int))) := ⟨hS.r12.1, hS.r12.2.set_ne (by omega)⟩
  have st := hS.st.set (i := 10) (j := (s.m - 1) * 2 + 1) (v := .int .i64 ((s.sc s.top : Int) + 1)) (by omega)
  have inv := hS.inv
  have tgt := hE.tgt
  have hA : (dg x.P x.n x.sl).inA t := ⟨j', j'1, j'2⟩
  have HQ : Hid (DNext x ri s v39 (Q (.exit 3))) := hQ
  have hcp := hgo.cC
  show Code.wp Try.prog (Code.seq (Code.block 4 (Code.seq _ (Code.cond (.tmp 142) Code.skip (Code.seq _ (Code.cond (.tmp 153) _ _))))) (Code.exit 3)) Q _ wr
  refine wp_seq_k (fun K1 hK => ?_)
  have HK : Hid (∀ (a : Act) (w : World), _ → K1 a w) := hK
  clear hK
  refine wp_block ?_
  refine wp_seq_k (fun K2 hK => ?_)
  have HK2 : Hid (∀ (a : Act) (w : World), _ → K2 a w) := hK
  clear hK
  by_cases hlab : s.lab t = 0
  · rw [if_pos hlab] at xc
    by_cases hidx : s.idx t = 0
    · -- down
      have hcall := visit_calls hD tP (by show P'.nK < _; rw [hS.dr.nK]; have := inv.h_le; omega) (by show P'.nQ < _; rw [hS.dr.nQ]; have := inv.h_le; have := inv.m_le; omega) ⟨by omega, by omega⟩
      have HC : Hid (Calls Try.prog 33 #[.int .i64 (t : Int), .pointer (some ⟨x.q14, 0, none⟩), .pointer (some ⟨x.q13, 0, none⟩)] wr fun e w' => e = .returned (.tuple #[]) ∧ ∃ M'', DIn x.w x.M x.p x.q13 x.q14 (((s.vis : Nat) : Int) + 1) w' M'' ((P'.advQ (s.m - 1) ((s.sc s.top : Int) + 1)).visit t (((s.vis : Nat) : Int) + 1)) ∧ LocX X14 (M'.set 10 ((s.m - 1) * 2 + 1) (.int .i64 ((s.sc s.top : Int) + 1))) M'') := hcall
      have fin : Hid (∀ w' M'', DIn x.w x.M x.p x.q13 x.q14 (((s.vis : Nat) : Int) + 1) w' M'' ((P'.advQ (s.m - 1) ((s.sc s.top : Int) + 1)).visit t (((s.vis : Nat) : Int) + 1)) → LocX X14 (M'.set 10 ((s.m - 1) * 2 + 1) (.int .i64 ((s.sc s.top : Int) + 1))) M'' → DRel x ri (2 * dgap x.P x.sl (s.down t).sc x.n + (s.down t).m) (M'.val 15) w') := by
        intro w' M'' h1 h2
        have v12 := h2.val (i := 12) (by unfold Own; omega) (by unfold X14; omega)
        have v15 := h2.val (i := 15) (by unfold Own; omega) (by unfold X14; omega)
        refine ⟨s.down t, K, ln, ls, lk, _, M'', ⟨h1, hS.dr.down inv hm hlab hidx, inv.down hm hq tgt hA hlab hidx, ⟨v12.trans r12.1, h2.ints (by unfold Own; omega) (by unfold X14; omega) r12.2⟩, st.loc h2 (by unfold X14; omega) (fun k => by unfold X14; omega)⟩, hPl.down hq hgap t, v15.symm, rfl⟩
      have lt : 2 * dgap x.P x.sl (s.down t).sc x.n + (s.down t).m < 2 * dgap x.P x.sl s.sc x.n + s.m := by
        show 2 * dgap x.P x.sl (up s.sc s.top (s.sc s.top + 1)) x.n + (s.m + 1) < _
        omega
      have hi0 : ((s.idx t : Nat) : Int) = 0 := by omega
      rw [hi0] at xi
      clear hcall hD hS hPl hgo inv hE tgt hA st r12 b3 ec ei hgap hq hQ kE kfr kto kS kon kout kC jt1 jt2 j'1 j'2 hf h11 h12 hn3 hi0
      generalize (M'.set 10 ((s.m - 1) * 2 + 1) (.int .i64 ((s.sc s.top : Int) + 1))).cap 3 = k3 at *
      generalize M'.val 15 = v7 at *
      generalize 2 * dgap x.P x.sl (s.down t).sc x.n + (s.down t).m = nn at *
      go_wp2
      refine HK2.out _ _ (wp_cond_false (by kernel_rfl) ?_)
      refine wp_seq_k (fun K3 hK => ?_)
      have HK3 : Hid (∀ (a : Act) (w : World), _ → K3 a w) := hK
      clear hK
      go_wp2
      refine HK3.out _ _ (wp_cond_true (by kernel_rfl) ?_)
      go_wp2_with (go_at_call 33; refine HC.out.mono ?_; rintro e w' ⟨rfl, M'', h1, h2⟩; have hR := fin.out w' M'' h1 h2; clear h1 h2; have HRR : Hid (DRel x ri nn v7 w') := hR; clear hR)
      refine HK.out _ _ (wp_exit ?_)
      exact HQ.out _ _ v7 nn ⟨by kernel_rfl, by kernel_rfl, by kernel_rfl, by kernel_rfl, by kernel_rfl, by kernel_rfl, by kernel_rfl, by kernel_rfl, by kernel_rfl, by kernel_rfl, by kernel_rfl⟩ HRR.out lt
    · -- back
      have fin : Hid (DRel x ri (2 * dgap x.P x.sl (s.back t).sc x.n + (s.back t).m) (M'.val 15) ((wr.setCell ⟨g3, s.top * 7 + 4, none⟩ (.int .i64 ((min (s.low s.top) (s.idx t) : Nat) : Int))).drew)) := by
        have d2 := (hD.setp (i := 3) (j := s.top * 7 + 4) b3 (by omega) (hD.pm.set_low s.top ((min (s.low s.top) (s.idx t) : Nat) : Int))).drew
        exact ⟨s.back t, K, ln, ls, lk, _, _, ⟨d2, hS.dr.back inv hm, inv.back hm hq tgt hA hidx, ⟨r12.1, r12.2.set_ne (by omega)⟩, st.set (by omega)⟩, hPl.back hq hgap t, rfl, rfl⟩
      have lt : 2 * dgap x.P x.sl (s.back t).sc x.n + (s.back t).m < 2 * dgap x.P x.sl s.sc x.n + s.m := by
        show 2 * dgap x.P x.sl (up s.sc s.top (s.sc s.top + 1)) x.n + s.m < _
        omega
      have xl := hD.slot b3 uP (show 4 < 7 by omega) (hD.pm.low s.top uP)
      have el : (P'.advQ (s.m - 1) ((s.sc s.top : Int) + 1)).low s.top = ((s.low s.top : Nat) : Int) := hS.dr.low (s.m - 1) (by omega)
      rw [el] at xl
      have fl := hD.rep.frozen b3 (s.top * 7 + 4)
      have hi0 : (((s.idx t : Nat) : Int) == 0) = false := by simpa using hidx
      have hmin := run_min2n
      clear hD hS hPl hgo inv hE tgt hA st r12 b3 ec ei el hgap hq hQ kE kfr kto kS kon kout kC jt1 jt2 j'1 j'2 hf h11 h12 hn3
      generalize (M'.set 10 ((s.m - 1) * 2 + 1) (.int .i64 ((s.sc s.top : Int) + 1))).cap 3 = k3 at *
      generalize M'.val 15 = v7 at *
      generalize 2 * dgap x.P x.sl (s.back t).sc x.n + (s.back t).m = nn at *
      go_wp2
      refine HK2.out _ _ (wp_cond_false (by kernel_rfl) ?_)
      refine wp_seq_k (fun K3 hK => ?_)
      have HK3 : Hid (∀ (a : Act) (w : World), _ → K3 a w) := hK
      clear hK
      go_wp2
      refine HK3.out _ _ (wp_cond_false (by kernel_rfl) ?_)
      have FK : Hid (∀ k w', k ≤ 0 → C1 wr.drew ((wr.setCell ⟨g3, s.top * 7 + 4, none⟩ (.int .i64 ((min (s.low s.top) (s.idx t) : Nat) : Int))).drew) k w' → w' = wr.drew) := by
        intro k w' hk hw
        have hk : k = 0 := by omega
        subst hk
        exact hw
      refine wp_region_stage (C1 wr.drew ((wr.setCell ⟨g3, s.top * 7 + 4, none⟩ (.int .i64 ((min (s.low s.top) (s.idx t) : Nat) : Int))).drew)) [24] (fun i => 0) (by kernel_rfl) (by kernel_rfl) (rfl) ?_
      refine wpStage_read rfl rfl ?_
      apply Exists.intro
      refine ⟨fun k w' hk hw => ?_, ?_⟩
      · have hw0 := FK.out k w' hk hw
        subst hw0
        go_simp
        first | rfl | exact ⟨rfl, hw⟩
      go_simp
      refine wpStage_read rfl rfl ?_
      apply Exists.intro
      refine ⟨fun k w' hk hw => ?_, ?_⟩
      · go_simp
        first | rfl | exact ⟨rfl, hw⟩
      go_simp
      refine wpStage_read rfl rfl ?_
      apply Exists.intro
      refine ⟨fun k w' hk hw => ?_, ?_⟩
      · go_simp
        first | rfl | exact ⟨rfl, hw⟩
      go_simp
      refine wpStage_read rfl rfl ?_
      apply Exists.intro
      refine ⟨fun k w' hk hw => ?_, ?_⟩
      · have hw0 := FK.out k w' hk hw
        subst hw0
        go_simp
        first | rfl | exact ⟨rfl, hw⟩
      go_simp
      refine wpStage_read rfl rfl ?_
      apply Exists.intro
      refine ⟨fun k w' hk hw => ?_, ?_⟩
      · go_simp
        first | rfl | exact ⟨rfl, hw⟩
      go_simp
      refine wpStage_read rfl rfl ?_
      apply Exists.intro
      refine ⟨fun k w' hk hw => ?_, ?_⟩
      · have hw0 := FK.out k w' hk hw
        subst hw0
        go_simp
        first | rfl | exact ⟨rfl, hw⟩
      go_simp
      refine wpStage_read rfl rfl ?_
      apply Exists.intro
      refine ⟨fun k w' hk hw => ?_, ?_⟩
      · go_simp
        first | rfl | exact ⟨rfl, hw⟩
      go_simp
      refine wpStage_read rfl rfl ?_
      apply Exists.intro
      refine ⟨fun k w' hk hw => ?_, ?_⟩
      · go_simp
        first | rfl | exact ⟨rfl, hw⟩
      go_simp
      refine wpStage_read rfl rfl ?_
      apply Exists.intro
      refine ⟨fun k w' hk hw => ?_, ?_⟩
      · have hw0 := FK.out k w' hk hw
        subst hw0
        go_simp
        first | rfl | exact ⟨rfl, hw⟩
      go_simp
      refine wpStage_read rfl rfl ?_
      apply Exists.intro
      refine ⟨fun k w' hk hw => ?_, ?_⟩
      · go_simp
        first | rfl | exact ⟨rfl, hw⟩
      go_simp
      refine wpStage_read rfl rfl ?_
      apply Exists.intro
      refine ⟨fun k w' hk hw => ?_, ?_⟩
      · go_simp
        first | rfl | exact ⟨rfl, hw⟩
      go_simp
      refine wpStage_read rfl rfl ?_
      apply Exists.intro
      refine ⟨fun k w' hk hw => ?_, ?_⟩
      · go_simp
        first | rfl | exact ⟨rfl, hw⟩
      go_simp
      refine wpStage_read rfl rfl ?_
      apply Exists.intro
      refine ⟨fun k w' hk hw => ?_, ?_⟩
      · have hw0 := FK.out k w' hk hw
        subst hw0
        go_simp
        first | rfl | exact ⟨rfl, hw⟩
      go_simp
      refine wpStage_read rfl rfl ?_
      apply Exists.intro
      refine ⟨fun k w' hk hw => ?_, ?_⟩
      · have hw0 := FK.out k w' hk hw
        subst hw0
        go_simp
        first | rfl | exact ⟨rfl, hw⟩
      go_simp
      refine wpStage_read rfl rfl ?_
      apply Exists.intro
      refine ⟨fun k w' hk hw => ?_, ?_⟩
      · go_simp
        first | rfl | exact ⟨rfl, hw⟩
      go_simp
      refine wpStage_read rfl rfl ?_
      apply Exists.intro
      refine ⟨fun k w' hk hw => ?_, ?_⟩
      · go_simp
        first | rfl | exact ⟨rfl, hw⟩
      go_simp
      refine wpStage_read rfl rfl ?_
      apply Exists.intro
      refine ⟨fun k w' hk hw => ?_, ?_⟩
      · have hw0 := FK.out k w' hk hw
        subst hw0
        go_simp
        first | rfl | exact ⟨rfl, hw⟩
      go_simp
      refine wpStage_read rfl rfl ?_
      apply Exists.intro
      refine ⟨fun k w' hk hw => ?_, ?_⟩
      · go_simp
        first | rfl | exact ⟨rfl, hw⟩
      go_simp
      refine wpStage_read rfl rfl ?_
      apply Exists.intro
      refine ⟨fun k w' hk hw => ?_, ?_⟩
      · go_simp
        first | rfl | exact ⟨rfl, hw⟩
      go_simp
      refine wpStage_read rfl rfl ?_
      apply Exists.intro
      refine ⟨fun k w' hk hw => ?_, ?_⟩
      · go_simp
        first | rfl | exact ⟨rfl, hw⟩
      go_simp
      refine wpStage_read rfl rfl ?_
      apply Exists.intro
      refine ⟨fun k w' hk hw => ?_, ?_⟩
      · have hw0 := FK.out k w' hk hw
        subst hw0
        go_simp
        first | rfl | exact ⟨rfl, hw⟩
      go_simp
      refine wpStage_read rfl rfl ?_
      apply Exists.intro
      refine ⟨fun k w' hk hw => ?_, ?_⟩
      · skip
        go_simp
        first | rfl | exact ⟨rfl, hw⟩
      go_simp
      refine wpStage_read rfl rfl ?_
      apply Exists.intro
      refine ⟨fun k w' hk hw => ?_, ?_⟩
      · go_simp
        first | rfl | exact ⟨rfl, hw⟩
      go_simp
      refine wpStage_read rfl rfl ?_
      apply Exists.intro
      refine ⟨fun k w' hk hw => ?_, ?_⟩
      · go_simp
        first | rfl | exact ⟨rfl, hw⟩
      go_simp
      refine wpStage_move rfl rfl ?_
      apply Exists.intro
      refine ⟨fun w' hw => ?_, ?_⟩
      · have hw : w' = wr.drew := hw
        subst hw
        go_simp
        first | rfl | exact ⟨rfl, rfl⟩
      go_simp
      intro w' hw0
      have hw : w' = ((wr.setCell ⟨g3, s.top * 7 + 4, none⟩ (.int .i64 ((min (s.low s.top) (s.idx t) : Nat) : Int))).drew) := hw0
      clear hw0
      rw [← hw] at fin
      clear hw FK
      refine HK.out _ _ (wp_exit ?_)
      exact HQ.out _ _ v7 nn ⟨by kernel_rfl, by kernel_rfl, by kernel_rfl, by kernel_rfl, by kernel_rfl, by kernel_rfl, by kernel_rfl, by kernel_rfl, by kernel_rfl, by kernel_rfl, by kernel_rfl⟩ fin.out lt
  · rw [if_neg hlab] at xc
    have fin : Hid (DRel x ri (2 * dgap x.P x.sl s.adv.sc x.n + s.adv.m) (M'.val 15) wr) :=
      ⟨s.adv, K, ln, ls, lk, _, _, ⟨hD, hS.dr.adv inv hm, inv.adv hm hq (fun _ => by rw [tgt]; exact hlab), r12, st⟩, hPl.adv hq hgap, rfl, rfl⟩
    have lt : 2 * dgap x.P x.sl s.adv.sc x.n + s.adv.m < 2 * dgap x.P x.sl s.sc x.n + s.m := by
      show 2 * dgap x.P x.sl (up s.sc s.top (s.sc s.top + 1)) x.n + s.m < _
      omega
    have hc1 : ¬ (-1 : Int) = (x.c : Int) := by omega
    clear hD hS hPl hgo inv hE tgt hA st r12 b3 ec ei hgap hq hQ kE kfr kto kS kon kout kC jt1 jt2 j'1 j'2 hf h11 h12 hn3
    generalize (M'.set 10 ((s.m - 1) * 2 + 1) (.int .i64 ((s.sc s.top : Int) + 1))).cap 3 = k3 at *
    generalize M'.val 15 = v7 at *
    generalize 2 * dgap x.P x.sl s.adv.sc x.n + s.adv.m = nn at *
    go_wp2
    refine HK2.out _ _ (wp_cond_true (by kernel_rfl) (wp_skip ?_))
    refine HK.out _ _ (wp_exit ?_)
    exact HQ.out _ _ v7 nn ⟨by kernel_rfl, by kernel_rfl, by kernel_rfl, by kernel_rfl, by kernel_rfl, by kernel_rfl, by kernel_rfl, by kernel_rfl, by kernel_rfl, by kernel_rfl, by kernel_rfl⟩ fin.out lt
end Go.Proofs.Qxb6602148a
