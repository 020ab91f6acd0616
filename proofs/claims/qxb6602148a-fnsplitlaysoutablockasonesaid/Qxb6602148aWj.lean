import Derived.Test.Qxb6602148aWh
attribute [local go_sem] Go.Proofs.Qxb6602148a.yTo Go.Proofs.Qxb6602148a.yUpon
namespace Go.Proofs.Qxb6602148a
open Go.RowKit
set_option linter.unusedVariables false
set_option linter.unusedSimpArgs false

set_option maxRecDepth 40000 in
set_option maxHeartbeats 8000000 in
theorem walk_b16 (x : SC0) (gq kq : Nat) (y : Nat → Value) (v27 v30 v31 v32 v33 : Value) (s : HS) (S : SS) (kk : Nat) (cq : Nat → Int) (M2 : Fam) (w : World) (hP : Pop x s S kk cq M2 w) (hkk : s.pos (s.m - 1) < kk) (hx : SCx x) (hinv : HInv x.U s) (hm : 2 ≤ s.m) (hk : s.k ≤ 137438953472) (via : Nat) (hv33 : v33 = .int .i64 (via : Int)) (hy33 : y 33 = v33)
    (Q : Exit → Act → World → Prop)
    (hQ : ∀ (a : Act) (w' : World) (M6 : Fam) (S' : SS), FIC x gq kq a → a.tmps.getD 27 undef = v27 → a.tmps.getD 28 undef = .int .i64 (s.vis : Int) → a.tmps.getD 29 undef = M6.val 23 → a.tmps.getD 33 undef = .int .i64 (via : Int) → M6.val 27 = M2.val 27 → Pop x s S' (kk - 1) cq M6 w' → (s.met (kk - 1) = via → Q (.exit 15) a w') ∧ (s.met (kk - 1) ≠ via → Q .normal a w')) :
    Code.wp Try.prog (B16 (Try.f29.body.getD .skip)) Q (LIT y x gq kq v27 (.int .i64 (s.vis : Int)) (M2.val 23) v30 v31 v32) w := by
  subst hv33
  have HQ0 : Hid (∀ (a : Act) (w' : World) (M6 : Fam) (S' : SS), FIC x gq kq a → a.tmps.getD 27 undef = v27 → a.tmps.getD 28 undef = .int .i64 (s.vis : Int) → a.tmps.getD 29 undef = M6.val 23 → a.tmps.getD 33 undef = .int .i64 (via : Int) → M6.val 27 = M2.val 27 → Pop x s S' (kk - 1) cq M6 w' → (s.met (kk - 1) = via → Q (.exit 15) a w') ∧ (s.met (kk - 1) ≠ via → Q .normal a w')) := hQ
  clear hQ
  have kk2 := hP.pq.kk2
  obtain ⟨a0, b0, hinc⟩ := hinv.M.metex (kk - 1) (by omega)
  obtain ⟨i, l, hi, hl, hf, ht, hil, heE⟩ := hx.or.ends _ _ _ hinc
  have hblk : S.L.blk (s.met (kk - 1)) = 0 := by
    rw [hP.pq.blk2 _ ⟨a0, b0, hinc⟩ (fun j j1 j2 hj => by
      have := hinv.M.metinj j (kk - 1) j2 (by omega) hj
      omega)]
    rw [if_pos (hinv.M.metblk (kk - 1) (by omega))]
  have hkeep := hP.pq.lk.lay.keep _ hblk
  rw [hf, ht] at hkeep
  obtain ⟨g23, b23⟩ := hP.mem.sin.rep.hasBlock (i := 23) (by rw [hP.mem.sr.me.1]; omega)
  have c23 := hP.mem.sr.me.cell hP.mem.sin.rep b23 rfl (show kk - 1 < kk by omega)
  have l23 := hP.mem.sin.rep.le_cap 23
  have m23 := hP.mem.sin.rep.cap_le 23
  simp only [maxLen] at m23
  rw [hP.mem.sr.me.1] at l23
  have v23 : M2.val 23 = .slice (some ⟨g23, 0, none⟩) kk (M2.cap 23) := by rw [val_some b23, hP.mem.sr.me.1]
  have mem3 := hP.mem.cutmet (k' := kk - 1) (by omega)
  have HP : Hid (Pop x s S kk cq M2 w) := hP
  have HM3 : Hid (SMem x _ _ (s.m - 1) cq (kk - 1) _ S ((s.nb : Int) + 1) ((x.P0.cs (x.LA.nb + s.nb) : Nat) : Int) (M2.put 23 (M2.b 23) (kk - 1) (M2.cap 23) (M2.F 23)) w) := mem3
  generalize he : s.met (kk - 1) = e at *
  unfold LIT LITv
  rw [hy33, v23]
  show Code.wp Try.prog (Code.seq _ (Code.seq _ (Code.seq _ (Code.seq _ (Code.seq _ (Code.cond _ (Code.exit 15) Code.skip)))))) Q _ w
  refine wp_seq_k (fun K hK => ?_)
  have HK : Hid (∀ (a : Act) (w : World), _ → K a w) := hK
  clear hK
  go_wp2
  refine HK.out _ _ ?_
  clear HK K
  refine wp_seq_k (fun K hK => ?_)
  have HK : Hid (∀ (a : Act) (w : World), _ → K a w) := hK
  clear hK
  go_wp2
  refine HK.out _ _ ?_
  clear HK K
  refine wp_seq_k (fun K hK => ?_)
  have HK : Hid (∀ (a : Act) (w : World), _ → K a w) := hK
  clear hK
  have bl0 : True := trivial
  have sin3 := HM3.out.sin
  have sr3 := HM3.out.sr
  have heS : e < S.P.nE := by rw [hP.pq.lk.lay.nE]; exact heE
  obtain ⟨g1, b1⟩ := sin3.rep.hasBlock (i := 1) (by rw [sin3.pm.fr.1]; omega)
  obtain ⟨g2, b2⟩ := sin3.rep.hasBlock (i := 2) (by rw [sin3.pm.to.1]; omega)
  have hcc : x.P0.cs (x.LA.nb + s.nb) = x.P0.cs (S.L.nb - 1) := by rw [hP.pq.nb]; rfl
  have ht2 := hP.pq.tb
  have hcn := cnt_le (nz S.L) x.P0.nE
  have hnE := hx.nE
  have pre0 := hP.pq.lk.pre hx.sp (by omega) hx.nS
  obtain ⟨k1, q1, _⟩ := hP.pq.lk.slot hx.sp hx.or.old hx.or.inj hi
  have pre1 := k1.pre hx.sp (by have := q1.t2; omega) hx.nS
  rw [q1.nb] at pre1
  have q2 := (k1.slot hx.sp hx.or.old hx.or.inj hl).2.1
  rw [q1.nb] at q2
  rw [← hcc] at pre0 pre1 k1 q1 q2
  have hp3 := sin3.hp hx.hp
  have hsi : x.str i < S.P.nS := by rw [hP.pq.lk.lay.nS]; have := hx.lt i hi; omega
  have hsl : x.str l < (S.slot (x.str i) i (x.P0.cs (x.LA.nb + s.nb)) ((s.nb : Int) + 1)).P.nS := by rw [k1.lay.nS]; have := hx.lt l hl; omega
  generalize hccg : x.P0.cs (x.LA.nb + s.nb) = cc at *
  have HC1 : Hid (Calls Try.prog 35 #[.int .i64 ((x.str i : Nat) : Int), .pointer (some ⟨x.q33, 0, none⟩), .pointer (some ⟨x.d.q31, 0, none⟩), .pointer (some ⟨x.d.q24, 0, none⟩), .pointer (some ⟨x.d.q25, 0, none⟩), .pointer (some ⟨x.d.q32, 0, none⟩)] w.drew fun e w' => e = .returned (.int .i64 (S.slotVal i ((s.nb : Int) + 1))) ∧ SOut x (M2.put 23 (M2.b 23) (kk - 1) (M2.cap 23) (M2.F 23)) w.drew (S.slot (x.str i) i cc ((s.nb : Int) + 1)) ((s.nb : Int) + 1) ((cc : Nat) : Int) w') :=
    sout1 sin3.rep.drew sin3.pm hp3 sr3.sb sin3.b33 sr3.bb.2.2.1 sr3.bb.1 sr3.bb.2.1 sr3.bb.2.2.2.1 hsi (hP.pq.lk.loc i hi) hi pre0
  have HC2 : Hid (∀ w', SOut x (M2.put 23 (M2.b 23) (kk - 1) (M2.cap 23) (M2.F 23)) w.drew (S.slot (x.str i) i cc ((s.nb : Int) + 1)) ((s.nb : Int) + 1) ((cc : Nat) : Int) w' → Calls Try.prog 35 #[.int .i64 ((x.str l : Nat) : Int), .pointer (some ⟨x.q33, 0, none⟩), .pointer (some ⟨x.d.q31, 0, none⟩), .pointer (some ⟨x.d.q24, 0, none⟩), .pointer (some ⟨x.d.q25, 0, none⟩), .pointer (some ⟨x.d.q32, 0, none⟩)] w' fun e w'' => e = .returned (.int .i64 ((S.slot (x.str i) i cc ((s.nb : Int) + 1)).slotVal l ((s.nb : Int) + 1))) ∧ SOut x (M2.put 23 (M2.b 23) (kk - 1) (M2.cap 23) (M2.F 23)) w.drew ((S.slot (x.str i) i cc ((s.nb : Int) + 1)).slot (x.str l) l cc ((s.nb : Int) + 1)) ((s.nb : Int) + 1) ((cc : Nat) : Int) w'') :=
    fun w' h => sout2 h hp3 sin3.b33 sr3.bb.2.2.1 sr3.bb.1 sr3.bb.2.1 sr3.bb.2.2.2.1 hsl (k1.loc l hl) hl pre1
  have HRd0 : Hid (Rd x w.drew g1 g2 e S.P.nE ((M2.put 23 (M2.b 23) (kk - 1) (M2.cap 23) (M2.F 23)).cap 1) ((M2.put 23 (M2.b 23) (kk - 1) (M2.cap 23) (M2.F 23)).cap 2) ((x.str i : Nat) : Int) ((x.str l : Nat) : Int)) := by
    have h : SOut x (M2.put 23 (M2.b 23) (kk - 1) (M2.cap 23) (M2.F 23)) w.drew S ((s.nb : Int) + 1) ((cc : Nat) : Int) w.drew := ⟨_, sin3.rep.drew, sin3.pm, Grew.refl _ _, LocX.refl _ _, sr3.sb, rfl, rfl, rfl, rfl⟩
    have := h.rd (S := S) hp3 sin3.b33 b1 b2 rfl rfl rfl heS
    rw [hkeep.1, hkeep.2] at this
    exact this
  have HRd1 : Hid (∀ w', SOut x (M2.put 23 (M2.b 23) (kk - 1) (M2.cap 23) (M2.F 23)) w.drew (S.slot (x.str i) i cc ((s.nb : Int) + 1)) ((s.nb : Int) + 1) ((cc : Nat) : Int) w' → Rd x w' g1 g2 e S.P.nE ((M2.put 23 (M2.b 23) (kk - 1) (M2.cap 23) (M2.F 23)).cap 1) ((M2.put 23 (M2.b 23) (kk - 1) (M2.cap 23) (M2.F 23)).cap 2) ((x.str i : Nat) : Int) ((x.str l : Nat) : Int)) := by
    intro w' h
    have := h.rd (S := S) hp3 sin3.b33 b1 b2 q1.fr q1.to q1.nE heS
    rw [hkeep.1, hkeep.2] at this
    exact this
  have HRd2 : Hid (∀ w', SOut x (M2.put 23 (M2.b 23) (kk - 1) (M2.cap 23) (M2.F 23)) w.drew ((S.slot (x.str i) i cc ((s.nb : Int) + 1)).slot (x.str l) l cc ((s.nb : Int) + 1)) ((s.nb : Int) + 1) ((cc : Nat) : Int) w' → Rd x w' g1 g2 e S.P.nE ((M2.put 23 (M2.b 23) (kk - 1) (M2.cap 23) (M2.F 23)).cap 1) ((M2.put 23 (M2.b 23) (kk - 1) (M2.cap 23) (M2.F 23)).cap 2) ((x.str i : Nat) : Int) ((x.str l : Nat) : Int)) := by
    intro w' h
    have := h.rd (S := S) hp3 sin3.b33 b1 b2 (q2.fr.trans q1.fr) (q2.to.trans q1.to) (q2.nE.trans q1.nE) heS
    rw [hkeep.1, hkeep.2] at this
    exact this
  have HF2 : Hid (∀ w', SOut x (M2.put 23 (M2.b 23) (kk - 1) (M2.cap 23) (M2.F 23)) w.drew ((S.slot (x.str i) i cc ((s.nb : Int) + 1)).slot (x.str l) l cc ((s.nb : Int) + 1)) ((s.nb : Int) + 1) ((cc : Nat) : Int) w' → w'.frozen? ⟨g1, e, none⟩ = false ∧ w'.frozen? ⟨g2, e, none⟩ = false) := by
    rintro w' ⟨M', r, pm, g, lo, sb, _⟩
    exact ⟨r.frozen ((lo.ft 1 (.inl rfl)).1.trans b1) e, r.frozen ((lo.ft 2 (.inr rfl)).1.trans b2) e⟩
  have d12 : g1 ≠ g2 := sin3.ne b1 b2 (by omega)
  have dp1 : x.d.p ≠ g1 := sin3.ne hp3 b1 (by omega)
  have dq1 : x.q33 ≠ g1 := sin3.ne sin3.b33 b1 (by omega)
  have lc1 := sin3.rep.le_cap 1
  have lc2 := sin3.rep.le_cap 2
  rw [sin3.pm.fr.1] at lc1
  rw [sin3.pm.to.1] at lc2
  generalize hS1 : S.slot (x.str i) i cc ((s.nb : Int) + 1) = S1 at *
  generalize hS2 : S1.slot (x.str l) l cc ((s.nb : Int) + 1) = S2 at *
  generalize hv1 : S.slotVal i ((s.nb : Int) + 1) = v1 at *
  generalize hv2 : S1.slotVal l ((s.nb : Int) + 1) = v2 at *
  have HS1 : Hid (S.slot (x.str i) i cc ((s.nb : Int) + 1) = S1) := hS1
  have HS2 : Hid (S1.slot (x.str l) l cc ((s.nb : Int) + 1) = S2) := hS2
  have HV1 : Hid (S.slotVal i ((s.nb : Int) + 1) = v1) := hv1
  have HV2 : Hid (S1.slotVal l ((s.nb : Int) + 1) = v2) := hv2
  have HCC : Hid (x.P0.cs (x.LA.nb + s.nb) = cc) := hccg
  have Hhf : Hid (x.P0.fr e = ((x.str i : Nat) : Int) ∧ x.P0.to e = ((x.str l : Nat) : Int) ∧ s.met (kk - 1) = e) := ⟨hf, ht, he⟩
  have HQs : Hid (Still S S1 ∧ Still S1 S2) := ⟨q1, q2⟩
  have HBB : Hid ((M2.put 23 (M2.b 23) (kk - 1) (M2.cap 23) (M2.F 23)).b 1 = some g1 ∧ (M2.put 23 (M2.b 23) (kk - 1) (M2.cap 23) (M2.F 23)).b 2 = some g2) := ⟨b1, b2⟩
  have HX : Hid (SCx x) := hx
  have HV23 : Hid (M2.b 23 = some g23) := b23
  have Hnc : Hid (cc < S2.P.nC ∧ 0 ≤ S2.P.edg cc ∧ S2.P.edg cc ≤ 1000000) := by
    refine ⟨by rw [q2.nC, q1.nC]; exact pre0.2.2.1, ?_⟩
    rw [q2.edg, q1.edg]
    have h1 := hP.pq.lk.lay.edg (S.L.nb - 1) (by have := hP.pq.lk.nb; omega)
    rw [← hcc] at h1
    have h2 := cnt_le (fun e => S.L.blk e == S.L.nb - 1 + 1) x.P0.nE
    rw [h1]
    omega
  have Hcc : Hid (x.P0.cs (S.L.nb - 1) = cc) := hcc.symm
  have HInvs : Hid (HInv x.U s) := hinv
  clear hS1 hS2 hv1 hv2 hccg hf ht he q1 q2 b1 b2 hx hinv hP mem3 sin3 sr3 hkeep hblk hinc hil k1 pre0 pre1 hp3 hcc ht2 hcn hsi hsl b23 v23 hy33 bl0 c23
  generalize (M2.put 23 (M2.b 23) (kk - 1) (M2.cap 23) (M2.F 23)).cap 1 = k1 at *
  generalize (M2.put 23 (M2.b 23) (kk - 1) (M2.cap 23) (M2.F 23)).cap 2 = k2 at *
  generalize S.P.nE = nE at *
  have FK : Hid (∀ k w', k ≤ 2 → C76 x (M2.put 23 (M2.b 23) (kk - 1) (M2.cap 23) (M2.F 23)) w.drew S1 S2 ((s.nb : Int) + 1) ((cc : Nat) : Int) g1 g2 e v1 v2 k w' → Rd x w' g1 g2 e nE k1 k2 ((x.str i : Nat) : Int) ((x.str l : Nat) : Int)) := by
    intro k w' hk hw
    match k, hk with
    | 0, _ =>
      have hw : w' = w.drew := hw
      subst hw
      exact HRd0.out
    | 1, _ => exact HRd1.out w' hw
    | 2, _ => exact HRd2.out w' hw
  have FL : Hid (∀ k w', k ≤ 3 → C76 x (M2.put 23 (M2.b 23) (kk - 1) (M2.cap 23) (M2.F 23)) w.drew S1 S2 ((s.nb : Int) + 1) ((cc : Nat) : Int) g1 g2 e v1 v2 k w' → w'.cell? ⟨x.q33, 0, none⟩ = some (.pointer (some ⟨x.d.p, 0, none⟩)) ∧ w'.cell? ⟨x.d.p, 2, none⟩ = some (.slice (some ⟨g2, 0, none⟩) nE k2)) := by
    intro k w' hk hw
    match k, hk with
    | 0, _ => exact ⟨(FK.out 0 w' (by omega) hw).box, (FK.out 0 w' (by omega) hw).h2⟩
    | 1, _ => exact ⟨(FK.out 1 w' (by omega) hw).box, (FK.out 1 w' (by omega) hw).h2⟩
    | 2, _ => exact ⟨(FK.out 2 w' (by omega) hw).box, (FK.out 2 w' (by omega) hw).h2⟩
    | 3, _ =>
      obtain ⟨w1, h1, hw⟩ := hw
      subst hw
      rw [cell_ne dq1, cell_ne dp1]
      exact ⟨(HRd2.out w1 h1).box, (HRd2.out w1 h1).h2⟩
  refine wp_region_stage (C76 x (M2.put 23 (M2.b 23) (kk - 1) (M2.cap 23) (M2.F 23)) w.drew S1 S2 ((s.nb : Int) + 1) ((cc : Nat) : Int) g1 g2 e v1 v2) [18, 27, 29, 31] (fun i => if i < 5 then 2 else if i < 10 then 3 else if i < 18 then 0 else if i < 27 then 1 else if i < 29 then 2 else 3) (by kernel_rfl) (by kernel_rfl) (rfl) ?_
  refine wpStage_read rfl rfl ?_
  apply Exists.intro
  refine ⟨fun k w' hk hw => ?_, ?_⟩
  · obtain ⟨y1, y2, y3, y4, y5⟩ := FK.out k w' hk hw
    go_simp
    first | rfl | exact ⟨rfl, hw⟩
  go_simp
  refine wpStage_read rfl rfl ?_
  apply Exists.intro
  refine ⟨fun k w' hk hw => ?_, ?_⟩
  · go_simp
    first | rfl | exact ⟨rfl, hw⟩
  go_simp
  refine wpStage_read rfl rfl ?_
  apply Exists.intro
  refine ⟨fun k w' hk hw => ?_, ?_⟩
  · go_simp
    first | rfl | exact ⟨rfl, hw⟩
  go_simp
  refine wpStage_read rfl rfl ?_
  apply Exists.intro
  refine ⟨fun k w' hk hw => ?_, ?_⟩
  · obtain ⟨y1, y2, y3, y4, y5⟩ := FK.out k w' hk hw
    go_simp
    first | rfl | exact ⟨rfl, hw⟩
  go_simp
  refine wpStage_read rfl rfl ?_
  apply Exists.intro
  refine ⟨fun k w' hk hw => ?_, ?_⟩
  · go_simp
    first | rfl | exact ⟨rfl, hw⟩
  go_simp
  refine wpStage_read rfl rfl ?_
  apply Exists.intro
  refine ⟨fun k w' hk hw => ?_, ?_⟩
  · obtain ⟨y1, y2⟩ := FL.out k w' hk hw
    go_simp
    first | rfl | exact ⟨rfl, hw⟩
  go_simp
  refine wpStage_read rfl rfl ?_
  apply Exists.intro
  refine ⟨fun k w' hk hw => ?_, ?_⟩
  · go_simp
    first | rfl | exact ⟨rfl, hw⟩
  go_simp
  refine wpStage_read rfl rfl ?_
  apply Exists.intro
  refine ⟨fun k w' hk hw => ?_, ?_⟩
  · go_simp
    first | rfl | exact ⟨rfl, hw⟩
  go_simp
  refine wpStage_read rfl rfl ?_
  apply Exists.intro
  refine ⟨fun k w' hk hw => ?_, ?_⟩
  · obtain ⟨y1, y2⟩ := FL.out k w' hk hw
    go_simp
    first | rfl | exact ⟨rfl, hw⟩
  go_simp
  refine wpStage_read rfl rfl ?_
  apply Exists.intro
  refine ⟨fun k w' hk hw => ?_, ?_⟩
  · go_simp
    first | rfl | exact ⟨rfl, hw⟩
  go_simp
  refine wpStage_read rfl rfl ?_
  apply Exists.intro
  refine ⟨fun k w' hk hw => ?_, ?_⟩
  · go_simp
    first | rfl | exact ⟨rfl, hw⟩
  go_simp
  refine wpStage_read rfl rfl ?_
  apply Exists.intro
  refine ⟨fun k w' hk hw => ?_, ?_⟩
  · obtain ⟨y1, y2, y3, y4, y5⟩ := FK.out k w' (Nat.le_trans hk (by decide)) hw
    go_simp
    first | rfl | exact ⟨rfl, hw⟩
  go_simp
  refine wpStage_read rfl rfl ?_
  apply Exists.intro
  refine ⟨fun k w' hk hw => ?_, ?_⟩
  · go_simp
    first | rfl | exact ⟨rfl, hw⟩
  go_simp
  refine wpStage_read rfl rfl ?_
  apply Exists.intro
  refine ⟨fun k w' hk hw => ?_, ?_⟩
  · go_simp
    first | rfl | exact ⟨rfl, hw⟩
  go_simp
  refine wpStage_read rfl rfl ?_
  apply Exists.intro
  refine ⟨fun k w' hk hw => ?_, ?_⟩
  · obtain ⟨y1, y2, y3, y4, y5⟩ := FK.out k w' (Nat.le_trans hk (by decide)) hw
    go_simp
    first | rfl | exact ⟨rfl, hw⟩
  go_simp
  refine wpStage_read rfl rfl ?_
  apply Exists.intro
  refine ⟨fun k w' hk hw => ?_, ?_⟩
  · go_simp
    first | rfl | exact ⟨rfl, hw⟩
  go_simp
  refine wpStage_read rfl rfl ?_
  apply Exists.intro
  refine ⟨fun k w' hk hw => ?_, ?_⟩
  · go_simp
    first | rfl | exact ⟨rfl, hw⟩
  go_simp
  refine wpStage_read rfl rfl ?_
  apply Exists.intro
  refine ⟨fun k w' hk hw => ?_, ?_⟩
  · obtain ⟨y1, y2, y3, y4, y5⟩ := FK.out k w' (Nat.le_trans hk (by decide)) hw
    go_simp
    first | rfl | exact ⟨rfl, hw⟩
  go_simp
  refine wpStage_move rfl rfl ?_
  apply Exists.intro
  refine ⟨fun w' hw => ?_, ?_⟩
  · have hw : w' = w.drew := hw
    subst hw
    go_simp
    exact HC1.out
  go_simp
  refine wpStage_read rfl rfl ?_
  apply Exists.intro
  refine ⟨fun k w' hk hw => ?_, ?_⟩
  · go_simp
    first | rfl | exact ⟨rfl, hw⟩
  go_simp
  refine wpStage_read rfl rfl ?_
  apply Exists.intro
  refine ⟨fun k w' hk hw => ?_, ?_⟩
  · obtain ⟨y1, y2, y3, y4, y5⟩ := FK.out k w' (Nat.le_trans hk (by decide)) hw
    go_simp
    first | rfl | exact ⟨rfl, hw⟩
  go_simp
  refine wpStage_read rfl rfl ?_
  apply Exists.intro
  refine ⟨fun k w' hk hw => ?_, ?_⟩
  · go_simp
    first | rfl | exact ⟨rfl, hw⟩
  go_simp
  refine wpStage_read rfl rfl ?_
  apply Exists.intro
  refine ⟨fun k w' hk hw => ?_, ?_⟩
  · go_simp
    first | rfl | exact ⟨rfl, hw⟩
  go_simp
  refine wpStage_read rfl rfl ?_
  apply Exists.intro
  refine ⟨fun k w' hk hw => ?_, ?_⟩
  · obtain ⟨y1, y2, y3, y4, y5⟩ := FK.out k w' (Nat.le_trans hk (by decide)) hw
    go_simp
    first | rfl | exact ⟨rfl, hw⟩
  go_simp
  refine wpStage_read rfl rfl ?_
  apply Exists.intro
  refine ⟨fun k w' hk hw => ?_, ?_⟩
  · go_simp
    first | rfl | exact ⟨rfl, hw⟩
  go_simp
  refine wpStage_read rfl rfl ?_
  apply Exists.intro
  refine ⟨fun k w' hk hw => ?_, ?_⟩
  · go_simp
    first | rfl | exact ⟨rfl, hw⟩
  go_simp
  refine wpStage_read rfl rfl ?_
  apply Exists.intro
  refine ⟨fun k w' hk hw => ?_, ?_⟩
  · obtain ⟨y1, y2, y3, y4, y5⟩ := FK.out k w' (Nat.le_trans hk (by decide)) hw
    go_simp
    first | rfl | exact ⟨rfl, hw⟩
  go_simp
  refine wpStage_move rfl rfl ?_
  apply Exists.intro
  refine ⟨fun w' hw => ?_, ?_⟩
  · go_simp
    exact HC2.out w' hw
  go_simp
  refine wpStage_read rfl rfl ?_
  apply Exists.intro
  refine ⟨fun k w' hk hw => ?_, ?_⟩
  · go_simp
    first | rfl | exact ⟨rfl, hw⟩
  go_simp
  refine wpStage_move rfl rfl ?_
  apply Exists.intro
  refine ⟨fun w' hw => ?_, ?_⟩
  · obtain ⟨y1, y2, y3, y4, y5⟩ := HRd2.out w' hw
    obtain ⟨f1, f2⟩ := HF2.out w' hw
    go_simp
    exact ⟨rfl, w', hw, rfl⟩
  go_simp
  refine wpStage_read rfl rfl ?_
  apply Exists.intro
  refine ⟨fun k w' hk hw => ?_, ?_⟩
  · go_simp
    first | rfl | exact ⟨rfl, hw⟩
  go_simp
  refine wpStage_move rfl rfl ?_
  apply Exists.intro
  refine ⟨fun w' hw => ?_, ?_⟩
  · obtain ⟨w1, h1, hw⟩ := hw
    subst hw
    obtain ⟨y1, y2, y3, y4, y5⟩ := HRd2.out w1 h1
    obtain ⟨f1, f2⟩ := HF2.out w1 h1
    go_simp
    exact ⟨rfl, w1, h1, rfl⟩
  go_simp
  intro w' hw
  obtain ⟨w1, hs2, hw⟩ := hw
  subst hw
  refine HK.out _ _ ?_
  clear HK K FK FL HC1 HC2 HRd0 HRd1 HRd2 HF2
  have hpq : PQ x.P0 x.LA x.U x.d.N x.str s (S2.assign cc e v1 v2) (kk - 1) := by
    have h := HP.out.pq.pop HInvs.out HX.out.sp HX.out.or HX.out.dn hkk Hhf.out.2.2 hi hl Hhf.out.1 Hhf.out.2.1
    unfold SS.pop at h
    rw [Hcc.out, HS1.out, HS2.out, HV1.out, HV2.out] at h
    exact h
  have mk : ∀ M6 w', SMem x (fun v => ((s.idx v : Nat) : Int)) (fun v => ((up s.low s.par (min (s.low s.par) (s.low s.top)) v : Nat) : Int)) (s.m - 1) cq (kk - 1) (fun i => ((s.met i : Nat) : Int)) (S2.assign cc e v1 v2) ((s.nb : Int) + 1) ((cc : Nat) : Int) M6 w' → Pop x s (S2.assign cc e v1 v2) (kk - 1) cq M6 w' := fun M6 w' h => ⟨by rw [HCC.out]; exact h, hpq, HP.out.cqf⟩
  have e23 : (M2.put 23 (M2.b 23) (kk - 1) (M2.cap 23) (M2.F 23)).val 23 = .slice (some ⟨g23, 0, none⟩) (kk - 1) (M2.cap 23) := by rw [put_vals, HV23.out]; rfl
  have e27 : (M2.put 23 (M2.b 23) (kk - 1) (M2.cap 23) (M2.F 23)).val 27 = M2.val 27 := put_val (by omega)
  refine b16_tail x gq kq _ s S S2 kk cq (M2.put 23 (M2.b 23) (kk - 1) (M2.cap 23) (M2.F 23)) w.drew w1 cc e via g1 g2 v1 v2 v27 (.int .i64 (s.vis : Int)) (.slice (some ⟨g23, 0, none⟩) (kk - 1) (M2.cap 23)) _ _ _ HM3.out.drew hs2 HBB.out.1 HBB.out.2 HX.out.hp Hnc.out.1 Hnc.out.2 ⟨by kernel_rfl, by kernel_rfl, by kernel_rfl, by kernel_rfl, by kernel_rfl, by kernel_rfl, by kernel_rfl, by kernel_rfl, by kernel_rfl, by kernel_rfl, by kernel_rfl, by kernel_rfl, by kernel_rfl⟩ (by kernel_rfl) (by kernel_rfl) (by kernel_rfl) (by kernel_rfl) (by kernel_rfl) Q ?_ ?_
  · intro a w' M6 f1 f2 f3 f4 f5 g3 g4 hm6 he
    exact (HQ0.out a w' M6 _ f1 f2 f3 (by rw [f4, g3, e23]) f5 (g4.trans e27) (mk M6 w' hm6)).1 he
  · intro a w' M6 f1 f2 f3 f4 f5 g3 g4 hm6 he
    exact (HQ0.out a w' M6 _ f1 f2 f3 (by rw [f4, g3, e23]) f5 (g4.trans e27) (mk M6 w' hm6)).2 he
end Go.Proofs.Qxb6602148a
