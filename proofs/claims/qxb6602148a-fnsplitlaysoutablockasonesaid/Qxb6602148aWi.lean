import Derived.Test.Qxb6602148aWg
attribute [local go_sem] Go.Proofs.Qxb6602148a.yTo Go.Proofs.Qxb6602148a.yUpon
namespace Go.Proofs.Qxb6602148a
open Go.RowKit
set_option linter.unusedVariables false
set_option linter.unusedSimpArgs false

/-- What stands behind 'p.from[e], p.to[e] = ..' in the loop that lays a block out. -/
def B16b (c : Code) : Code := tl 3 (bl (lp (bl (tl 2 (CUT c)))))

set_option maxRecDepth 40000 in
set_option maxHeartbeats 8000000 in
/-- 'p.edges[block]++; if e == via { break }'. -/
theorem walk_b16b (x : SC0) (gq kq : Nat) (y : Nat → Value) (v27 v28 v29 v30 v31 v32 : Value) (M : Fam) (P : PS) (w : World) (cc e via : Nat) (ev : Int) (hin : SIn x.w x.M x.d.p x.q33 w M P) (hp : x.M.b 11 = some x.d.p) (b25 : M.b 25 = some x.d.q25) (h25 : Ints M 25 1 (fun _ => ((cc : Nat) : Int))) (hc : cc < P.nC) (hev : P.edg cc = ev) (hev2 : 0 ≤ ev ∧ ev ≤ 1000000) (hy33 : y 33 = .int .i64 (via : Int)) (hy35 : y 35 = .int .i64 (e : Int))
    (Q : Exit → Act → World → Prop)
    (hQ1 : ∀ (a : Act) (w' : World), FIC x gq kq a → a.tmps.getD 27 undef = v27 → a.tmps.getD 28 undef = v28 → a.tmps.getD 29 undef = v29 → a.tmps.getD 33 undef = .int .i64 (via : Int) → SIn x.w x.M x.d.p x.q33 w' (M.set 7 cc (.int .i64 (ev + 1))) { P with edg := upd P.edg cc (ev + 1) } → e = via → Q (.exit 15) a w')
    (hQ2 : ∀ (a : Act) (w' : World), FIC x gq kq a → a.tmps.getD 27 undef = v27 → a.tmps.getD 28 undef = v28 → a.tmps.getD 29 undef = v29 → a.tmps.getD 33 undef = .int .i64 (via : Int) → SIn x.w x.M x.d.p x.q33 w' (M.set 7 cc (.int .i64 (ev + 1))) { P with edg := upd P.edg cc (ev + 1) } → e ≠ via → Q .normal a w') :
    Code.wp Try.prog (B16b (Try.f29.body.getD .skip)) Q (LIT y x gq kq v27 v28 v29 v30 v31 v32) w := by
  obtain ⟨g7, b7⟩ := hin.rep.hasBlock (i := 7) (by rw [hin.pm.edg.1]; omega)
  have c7 := hin.pm.hdr_some hin.rep (hin.hp hp) (show 7 < 11 by omega) b7
  have l7 := hin.rep.le_cap 7
  rw [hin.pm.edg.1] at c7 l7
  have ce := hin.pm.edg.cell hin.rep b7 rfl hc
  rw [hev] at ce
  have fe := hin.rep.frozen b7 cc
  have cb := hin.box
  have c25 := h25.cell hin.rep b25 rfl (show 0 < 1 by omega)
  have hw1 : IntKind.i64.wrap (ev + 1) = ev + 1 := by rw [IntKind.wrap_i64]; omega
  have fin : Hid (SIn x.w x.M x.d.p x.q33 ((w.setCell ⟨g7, cc, none⟩ (.int .i64 (ev + 1))).drew) (M.set 7 cc (.int .i64 (ev + 1))) { P with edg := upd P.edg cc (ev + 1) }) := by
    refine ⟨(hin.rep.set b7 cc _).drew, hin.pm.set_edg cc (ev + 1), (hin.grew.set ⟨7, b7⟩ _ _ _ _).drew, hin.loc.set (.inl (by unfold Own; omega)), hin.b33, hin.n33, ?_⟩
    rw [set_F _ (by omega)]; exact hin.f33
  have H1 := hQ1
  have H2 := hQ2
  have HQ1 : Hid (∀ (a : Act) (w' : World), FIC x gq kq a → a.tmps.getD 27 undef = v27 → a.tmps.getD 28 undef = v28 → a.tmps.getD 29 undef = v29 → a.tmps.getD 33 undef = .int .i64 (via : Int) → SIn x.w x.M x.d.p x.q33 w' (M.set 7 cc (.int .i64 (ev + 1))) { P with edg := upd P.edg cc (ev + 1) } → e = via → Q (.exit 15) a w') := hQ1
  have HQ2 : Hid (∀ (a : Act) (w' : World), FIC x gq kq a → a.tmps.getD 27 undef = v27 → a.tmps.getD 28 undef = v28 → a.tmps.getD 29 undef = v29 → a.tmps.getD 33 undef = .int .i64 (via : Int) → SIn x.w x.M x.d.p x.q33 w' (M.set 7 cc (.int .i64 (ev + 1))) { P with edg := upd P.edg cc (ev + 1) } → e ≠ via → Q .normal a w') := hQ2
  clear H1 H2 hQ1 hQ2 hin h25 b25 b7 hev
  generalize M.cap 7 = k7 at *
  generalize P.nC = nC at *
  unfold LIT LITv
  rw [hy33, hy35]
  show Code.wp Try.prog (Code.seq _ (Code.seq _ (Code.cond _ (Code.exit 15) Code.skip))) Q _ w
  refine wp_seq_k (fun K hK => ?_)
  have HK : Hid (∀ (a : Act) (w : World), _ → K a w) := hK
  clear hK
  have FK : Hid (∀ k w', k ≤ 0 → C1 w.drew ((w.setCell ⟨g7, cc, none⟩ (.int .i64 (ev + 1))).drew) k w' → w' = w.drew) := by
    intro k w' hk hw
    have hk : k = 0 := by omega
    subst hk
    exact hw
  refine wp_region_stage (C1 w.drew ((w.setCell ⟨g7, cc, none⟩ (.int .i64 (ev + 1))).drew)) [9] (fun i => 0) (by kernel_rfl) (by kernel_rfl) (rfl) ?_
  refine wpStage_read rfl rfl ?_
  apply Exists.intro
  refine ⟨fun k w' hk hw => ?_, ?_⟩
  · have hw0 := FK.out k w' hk hw
    subst hw0
    go_simp
    first | rfl | exact ⟨rfl, hw⟩
  go_simp
  refine wpStage_read rfl rfl ?_
  apply Exists.intro
  refine ⟨fun k w' hk hw => ?_, ?_⟩
  · go_simp
    first | rfl | exact ⟨rfl, hw⟩
  go_simp
  refine wpStage_read rfl rfl ?_
  apply Exists.intro
  refine ⟨fun k w' hk hw => ?_, ?_⟩
  · go_simp
    first | rfl | exact ⟨rfl, hw⟩
  go_simp
  refine wpStage_read rfl rfl ?_
  apply Exists.intro
  refine ⟨fun k w' hk hw => ?_, ?_⟩
  · have hw0 := FK.out k w' hk hw
    subst hw0
    go_simp
    first | rfl | exact ⟨rfl, hw⟩
  go_simp
  refine wpStage_read rfl rfl ?_
  apply Exists.intro
  refine ⟨fun k w' hk hw => ?_, ?_⟩
  · have hw0 := FK.out k w' hk hw
    subst hw0
    go_simp
    first | rfl | exact ⟨rfl, hw⟩
  go_simp
  refine wpStage_read rfl rfl ?_
  apply Exists.intro
  refine ⟨fun k w' hk hw => ?_, ?_⟩
  · go_simp
    first | rfl | exact ⟨rfl, hw⟩
  go_simp
  refine wpStage_read rfl rfl ?_
  apply Exists.intro
  refine ⟨fun k w' hk hw => ?_, ?_⟩
  · have hw0 := FK.out k w' hk hw
    subst hw0
    go_simp
    first | rfl | exact ⟨rfl, hw⟩
  go_simp
  refine wpStage_read rfl rfl ?_
  apply Exists.intro
  refine ⟨fun k w' hk hw => ?_, ?_⟩
  · go_simp
    first | rfl | exact ⟨rfl, hw⟩
  go_simp
  refine wpStage_read rfl rfl ?_
  apply Exists.intro
  refine ⟨fun k w' hk hw => ?_, ?_⟩
  · go_simp
    first | rfl | exact ⟨rfl, hw⟩
  go_simp
  refine wpStage_move rfl rfl ?_
  apply Exists.intro
  refine ⟨fun w' hw => ?_, ?_⟩
  · have hw : w' = w.drew := hw
    subst hw
    go_simp
    first | rfl | exact ⟨rfl, rfl⟩
  go_simp
  intro w' hw
  have hw : w' = ((w.setCell ⟨g7, cc, none⟩ (.int .i64 (ev + 1))).drew) := hw
  rw [← hw] at fin
  clear hw FK
  refine HK.out _ _ ?_
  clear HK K
  refine wp_seq_k (fun K hK => ?_)
  have HK : Hid (∀ (a : Act) (w : World), Code.wp Try.prog (Code.cond (.tmp 467) (Code.exit 15) Code.skip) Q a w → K a w) := hK
  clear hK
  by_cases hve : e = via
  · subst hve
    go_wp2
    refine HK.out _ _ (wp_cond_true (by kernel_rfl) (wp_exit ?_))
    exact HQ1.out _ _ ⟨by kernel_rfl, by kernel_rfl, by kernel_rfl, by kernel_rfl, by kernel_rfl, by kernel_rfl, by kernel_rfl, by kernel_rfl, by kernel_rfl, by kernel_rfl, by kernel_rfl, by kernel_rfl, by kernel_rfl⟩ (by kernel_rfl) (by kernel_rfl) (by kernel_rfl) (by kernel_rfl) fin.out (by simp)
  · go_wp2
    refine HK.out _ _ (wp_cond_f ((e : Int) == (via : Int)) (by kernel_rfl) (by simp; omega) (wp_skip ?_))
    exact HQ2.out _ _ ⟨by kernel_rfl, by kernel_rfl, by kernel_rfl, by kernel_rfl, by kernel_rfl, by kernel_rfl, by kernel_rfl, by kernel_rfl, by kernel_rfl, by kernel_rfl, by kernel_rfl, by kernel_rfl, by kernel_rfl⟩ (by kernel_rfl) (by kernel_rfl) (by kernel_rfl) (by kernel_rfl) fin.out hve
end Go.Proofs.Qxb6602148a
